import Derived.Test.Qxb6600624aBack
import Derived.Test.Qxb6600624aWalkB
namespace Go.Proofs.Qxb6600624a
open Go.RowKit
theorem Try.info45 : (Try.prog.info? 45).map (fun i => (i.zero, i.size, i.bytes)) = some (some (.agg #[.int .i64 0, .string ⟨#[]⟩, .int .i64 0]), 3, 32) := by kernel_rfl
theorem Try.info41 : (Try.prog.info? 41).map (fun i => (i.zero, i.size, i.bytes)) = some (some (.slice none 0 0), 1, 24) := by kernel_rfl

theorem make_arcs (n : Nat) (hn : n ≤ 131072) (w : World) : (Instr.makeSlice 41 (.int .i64 (n : Int)) (.int .i64 (n : Int))).run Try.prog w = .ok (.slice (some ⟨w.heap.size, 0, none⟩) n n) (w.alloc (.cells (madeCells #[.int .i64 0, .string ⟨#[]⟩, .int .i64 0] (n * 3)) 45)) := by
  obtain ⟨i, hi, hz, hs, hb⟩ := info_parts Try.info45
  have := run_make (P := Try.prog) w 41 45 i _ Try.underlying41 hi hz .i64 .i64 n n (by omega) (Int.le_refl _) (by rw [hb]; omega) (by omega)
  simpa [hs, Value.cells] using this

/-- Cell c of the row of arcs of node i. -/
def arcCell (T K : List (List Int)) (i c : Nat) : Value := if c % 3 = 0 then .int .i64 (Plain.tgtOf T i (c / 3) : Nat) else if c % 3 = 1 then .string (kindStr (Plain.kindOf K i (c / 3))) else .int .i64 0
def zeroArc (c : Nat) : Value := if c % 3 = 1 then .string ⟨#[]⟩ else .int .i64 0

theorem made_arcs (w : World) (n : Nat) : (w.alloc (.cells (madeCells #[.int .i64 0, .string ⟨#[]⟩, .int .i64 0] (n * 3)) 45)).rowIs w.heap.size 45 (n * 3) zeroArc := by
  have h := World.rowIs_alloc w (madeCells #[.int .i64 0, .string ⟨#[]⟩, .int .i64 0] (n * 3)) 45 zeroArc (fun i hi => ?_)
  · rw [size_madeCells] at h; exact h
  · rw [size_madeCells] at hi
    simp only [madeCells]
    rw [Array.getElem?_map, Array.getElem?_range, if_pos hi, Option.map_some]
    have h3 : i % 3 = 0 ∨ i % 3 = 1 ∨ i % 3 = 2 := by omega
    rcases h3 with e | e | e <;> simp [zeroArc, e]

/-- At the head of round k of the loop that lays the arcs. -/
structure BOuter (w wr : World) (T K : List (List Int)) (k : Nat) : Prop where
  below : Below w.heap.size w wr
  size : wr.heap.size = w.heap.size + 1 + k
  top : wr.rowIs w.heap.size 41 T.length (fun i => if i < k then .slice (some ⟨w.heap.size + 1 + i, 0, none⟩) (Plain.deg T i) (Plain.deg T i) else .slice none 0 0)
  done : ∀ i, i < k → wr.rowIs (w.heap.size + 1 + i) 45 (Plain.deg T i * 3) (arcCell T K i)

structure BInner (w wi : World) (T K : List (List Int)) (k j : Nat) : Prop where
  below : Below w.heap.size w wi
  size : wi.heap.size = w.heap.size + 1 + (k + 1)
  top : wi.rowIs w.heap.size 41 T.length (fun i => if i < k + 1 then .slice (some ⟨w.heap.size + 1 + i, 0, none⟩) (Plain.deg T i) (Plain.deg T i) else .slice none 0 0)
  done : ∀ i, i < k → wi.rowIs (w.heap.size + 1 + i) 45 (Plain.deg T i * 3) (arcCell T K i)
  cur : wi.rowIs (w.heap.size + 1 + k) 45 (Plain.deg T k * 3) (fun c => if c < j * 3 then arcCell T K k c else zeroArc c)

theorem bouter_start (w : World) (T K : List (List Int)) : BOuter w (w.alloc (.cells (madeCells #[.slice none 0 0] T.length) 41)) T K 0 :=
  ⟨(Below.refl _ _).alloc (Nat.le_refl _) _, by simp, (World.rowIs_made w _ T.length 41).congr (fun j _ => by simp), fun i hi => absurd hi (Nat.not_lt_zero _)⟩

theorem binner_start {w wr : World} {T K : List (List Int)} {k : Nat} (h : BOuter w wr T K k) :
    BInner w ((wr.alloc (.cells (madeCells #[.int .i64 0, .string ⟨#[]⟩, .int .i64 0] (Plain.deg T k * 3)) 45)).setCell ⟨w.heap.size, k, none⟩ (.slice (some ⟨w.heap.size + 1 + k, 0, none⟩) (Plain.deg T k) (Plain.deg T k))) T K k 0 := by
  have hnew := made_arcs wr (Plain.deg T k)
  rw [h.size] at hnew
  refine ⟨(h.below.alloc (by rw [h.size]; omega) _).setCell (Nat.le_refl _) _, by simp [h.size]; omega, ((h.top.alloc _).set k _).congr (fun j _ => ?_), fun i hi => ((h.done i hi).alloc _).setOther (by show w.heap.size + 1 + i ≠ w.heap.size; omega) _,
    (hnew.setOther (by show w.heap.size + 1 + k ≠ w.heap.size; omega) _).congr (fun i _ => by simp)⟩
  by_cases e : j = k
  · subst e; simp
  · rw [if_neg e]
    by_cases hlt : j < k
    · rw [if_pos hlt, if_pos (by omega)]
    · rw [if_neg hlt, if_neg (by omega)]

theorem binner_step {w wi : World} {T K : List (List Int)} {k j : Nat} (h : BInner w wi T K k j) :
    BInner w (((wi.setCell ⟨w.heap.size + 1 + k, j * 3, none⟩ (.int .i64 (Plain.tgtOf T k j : Nat))).setCell ⟨w.heap.size + 1 + k, j * 3 + 1, none⟩ (.string (kindStr (Plain.kindOf K k j)))).setCell ⟨w.heap.size + 1 + k, j * 3 + 2, none⟩ (.int .i64 0)).drew T K k (j + 1) := by
  have hB : w.heap.size ≤ w.heap.size + 1 + k := by omega
  refine ⟨(((h.below.setCell hB _).setCell hB _).setCell hB _).drew, by simp [World.setCell]; exact h.size, ((((h.top.setOther ?_ _).setOther ?_ _).setOther ?_ _)).drew, fun i hi => ((((h.done i hi).setOther ?_ _).setOther ?_ _).setOther ?_ _).drew, (((((h.cur.set _ _).set _ _).set _ _)).congr (fun c _ => ?_)).drew⟩
  · show w.heap.size ≠ w.heap.size + 1 + k; omega
  · show w.heap.size ≠ w.heap.size + 1 + k; omega
  · show w.heap.size ≠ w.heap.size + 1 + k; omega
  · show w.heap.size + 1 + i ≠ w.heap.size + 1 + k; omega
  · show w.heap.size + 1 + i ≠ w.heap.size + 1 + k; omega
  · show w.heap.size + 1 + i ≠ w.heap.size + 1 + k; omega
  · by_cases e2 : c = j * 3 + 2
    · subst e2
      rw [if_pos rfl, if_pos (by omega)]
      have q2 : (j * 3 + 2) % 3 = 2 := by omega
      simp [arcCell, q2]
    · rw [if_neg e2]
      by_cases e1 : c = j * 3 + 1
      · subst e1
        rw [if_pos rfl, if_pos (by omega)]
        have q1 : (j * 3 + 1) % 3 = 1 := by omega
        have q1' : (j * 3 + 1) / 3 = j := by omega
        simp [arcCell, q1, q1']
      · rw [if_neg e1]
        by_cases e0 : c = j * 3
        · subst e0
          rw [if_pos rfl, if_pos (by omega)]
          have q0 : (j * 3) % 3 = 0 := by omega
          have q0' : (j * 3) / 3 = j := by omega
          simp [arcCell, q0']
        · rw [if_neg e0]
          by_cases hlt : c < j * 3
          · rw [if_pos hlt, if_pos (by omega)]
          · rw [if_neg hlt, if_neg (by omega)]

theorem cell_set3 {w : World} {B b o i j k : Nat} {x y z : Value} (h : ¬ b = B) : (((w.setCell ⟨B, i, none⟩ x).setCell ⟨B, j, none⟩ y).setCell ⟨B, k, none⟩ z).drew.cell? ⟨b, o, none⟩ = w.cell? ⟨b, o, none⟩ :=
  World.cell?_of_block (w := w) ((Below.heap_setCell _ _ _ _ h).trans ((Below.heap_setCell _ _ _ _ h).trans (Below.heap_setCell _ _ _ _ h)))

theorem binner_done {w wi : World} {T K : List (List Int)} {k : Nat} (h : BInner w wi T K k (Plain.deg T k)) : BOuter w wi T K (k + 1) :=
  ⟨h.below, h.size, h.top, fun i hi => by
    by_cases e : i = k
    · subst e
      exact h.cur.congr (fun c hc => by rw [if_pos hc])
    · exact h.done i (by omega)⟩

/-- The arcs are laid: the search may be laid upon them. -/
theorem arena_mk {w w0 W : World} {T K : List (List Int)} {sb gb pb : Nat} {bud : Option Nat} (hO : BOuter w w0 T K T.length) (hb : ∀ k, k < w0.heap.size → W.heap[k]? = w0.heap[k]?) (hp : w0.heap.size ≤ pb) (hbud : ∀ b, bud = some b → w0.heap.size ≤ b)
    (s0 : W.cell? ⟨sb, 0, none⟩ = some (.pointer (some ⟨gb, 0, none⟩))) (s3 : W.cell? ⟨sb, 3, none⟩ = some (.pointer (bud.map fun b => ⟨b, 0, none⟩))) (s4 : W.cell? ⟨sb, 4, none⟩ = some (.slice (some ⟨pb, 0, none⟩) (4 * T.length) (4 * T.length)))
    (g1 : W.cell? ⟨gb, 1, none⟩ = some (.slice (some ⟨w.heap.size, 0, none⟩) T.length T.length)) (hs : sb ≠ pb ∧ some sb ≠ bud) (hg : gb ≠ pb ∧ some gb ≠ bud) : Arena W sb gb w.heap.size pb bud T K := by
  have hsz := hO.size
  have hne : ∀ k, k < w0.heap.size → (k ≠ pb ∧ some k ≠ bud) := fun k hk => ⟨by omega, fun e => by have := hbud k e.symm; omega⟩
  refine ⟨s0, s3, s4, g1, hs, hg, hne _ (by omega), fun i hi => ⟨w.heap.size + 1 + i, hne _ (by omega), ?_, fun j hj => ⟨?_, ?_, ?_⟩⟩⟩
  · have := (hO.top.of_block (hb _ (by omega))).cell hi
    rw [if_pos hi] at this
    exact this
  · have := ((hO.done i hi).of_block (hb _ (by omega))).cell (i := j * 3) (by omega)
    have q0' : (j * 3) / 3 = j := by omega
    simpa [arcCell, q0'] using this
  · have := ((hO.done i hi).of_block (hb _ (by omega))).cell (i := j * 3 + 1) (by omega)
    have q1 : (j * 3 + 1) % 3 = 1 := by omega
    have q1' : (j * 3 + 1) / 3 = j := by omega
    simpa [arcCell, q1, q1'] using this
  · have := ((hO.done i hi).of_block (hb _ (by omega))).cell (i := j * 3 + 2) (by omega)
    have q2 : (j * 3 + 2) % 3 = 2 := by omega
    simpa [arcCell, q2] using this

/-- The parents, being laid. -/
structure Pars (w0 wr : World) (m k : Nat) : Prop where
  below : Below w0.heap.size w0 wr
  size : wr.heap.size = w0.heap.size + 1
  row : wr.rowIs w0.heap.size 3 m (fun i => if i < k then .int .i64 (-2) else .int .i64 0)

theorem pars_start (w0 : World) (m : Nat) : Pars w0 (w0.alloc (.cells (madeCells #[.int .i64 0] m) 3)) m 0 :=
  ⟨(Below.refl _ _).alloc (Nat.le_refl _) _, by simp, (World.rowIs_made w0 _ m 3).congr (fun j _ => by simp)⟩

theorem pars_step {w0 wr : World} {m k : Nat} (h : Pars w0 wr m k) : Pars w0 (wr.setCell ⟨w0.heap.size, k, none⟩ (.int .i64 (-2))) m (k + 1) :=
  ⟨h.below.setCell (Nat.le_refl _) _, by simp [World.setCell]; exact h.size, (h.row.set k _).congr (fun i _ => by
    by_cases e : i = k
    · subst e; simp
    · rw [if_neg e]
      by_cases hlt : i < k
      · rw [if_pos hlt, if_pos (by omega)]
      · rw [if_neg hlt, if_neg (by omega)])⟩

end Go.Proofs.Qxb6600624a
