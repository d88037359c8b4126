/-
  DERIVED. BuildPlacements.
-/
import Derived.Test.Qxb6603051aCount
import Derived.Deep.RegionHeld3
import Derived.Laws.MakeOwn
namespace Go.Proofs.Qxb6603051a
open Go.RowKit Go.Maps

/-- A row of n pairs of cells. -/
theorem rowIs_made2 (w : World) (y z : Value) (n : Nat) (t : TypeId) : (w.alloc (.cells (madeCells #[y, z] (n * 2)) t)).rowIs w.heap.size t (n * 2) (fun i => if i % 2 = 0 then y else z) :=
  ⟨_, Go.Deep.blk_alloc_new _ _, size_madeCells _ _, fun i hi => by
    have h2 : i % 2 = 0 ∨ i % 2 = 1 := by omega
    rcases h2 with h2 | h2 <;> simp [madeCells, hi, h2]⟩

/-- The placements being laid: the first k stand. -/
structure Laying (w wr : World) (n k : Nat) (f : Nat → Value × Value) : Prop where
  below : Below w.heap.size w wr
  row : wr.rowIs w.heap.size 35 (n * 2) (fun i => if i / 2 < k then (if i % 2 = 0 then (f (i / 2)).1 else (f (i / 2)).2) else (if i % 2 = 0 then .string ⟨#[]⟩ else .slice none 0 0))

theorem laying_start (w : World) (n : Nat) (f : Nat → Value × Value) : Laying w (w.alloc (.cells (madeCells #[.string ⟨#[]⟩, .slice none 0 0] (n * 2)) 35)) n 0 f :=
  ⟨(Below.refl _ _).alloc (Nat.le_refl _) _, (rowIs_made2 w _ _ n 35).congr (fun i _ => by simp)⟩

theorem Laying.step {w wr : World} {n k : Nat} {f : Nat → Value × Value} (h : Laying w wr n k f) : Laying w ((wr.setCell ⟨w.heap.size, k * 2, none⟩ (f k).1).setCell ⟨w.heap.size, k * 2 + 1, none⟩ (f k).2) n (k + 1) f :=
  ⟨(h.below.setCell (Nat.le_refl _) _).setCell (Nat.le_refl _) _, ((h.row.set (k * 2) _).set (k * 2 + 1) _).congr (fun i _ => by
    by_cases e1 : i = k * 2 + 1
    · subst e1
      have a1 : (k * 2 + 1) / 2 = k := by omega
      have a2 : (k * 2 + 1) % 2 = 1 := by omega
      simp [a1, a2]
    · rw [if_neg e1]
      by_cases e2 : i = k * 2
      · subst e2
        have a1 : k * 2 / 2 = k := by omega
        have a2 : k * 2 % 2 = 0 := by omega
        simp [a1, a2]
      · rw [if_neg e2]
        by_cases hlt : i / 2 < k
        · have h2 : i / 2 < k + 1 := by omega
          simp only [hlt, h2, if_true]
        · have h2 : ¬ i / 2 < k + 1 := by omega
          simp only [hlt, h2, if_false])⟩

theorem Laying.drew {w wr : World} {n k : Nat} {f : Nat → Value × Value} (h : Laying w wr n k f) : Laying w wr.drew n k f := ⟨h.below.drew, h.row⟩

theorem run_make47 (n : Nat) (h : n ≤ 1048576) (w : World) : (Instr.makeSlice 47 (.int .i64 (n : Int)) (.int .i64 (n : Int))).run Try.prog w = .ok (.slice (some ⟨w.heap.size, 0, none⟩) n n) (w.alloc (.cells (madeCells #[.string ⟨#[]⟩, .slice none 0 0] (n * 2)) 35)) := by
  obtain ⟨i, hi, hz, hs, hb⟩ := info_parts Try.info35
  have := run_makeSlice (P := Try.prog) w 47 35 i _ Try.underlying47 hi hz .i64 .i64 (n : Int) (n : Int) (by omega) (Int.le_refl _) (by rw [hs]; omega) (by rw [hb]; omega) (by omega)
  rw [hs] at this
  simpa [Value.cells] using this

def RetPl (w : World) (P : List (ByteArray × List ByteArray)) (e : Ending) (w' : World) : Prop := ∃ v', e = .returned v' ∧ PlTab w' v' P ∧ Below w.heap.size w w'

set_option maxRecDepth 100000 in
set_option maxHeartbeats 1000000 in
theorem place_any (v1 v2 : Value) (E : List ByteArray) (Q : List (List ByteArray)) (w : World) (hE : Strs w v1 E) (hQ : STab w v2 Q) (hl : E.length = Q.length) (hn : E.length ≤ 65536) :
    Calls Try.prog 26 #[v1, v2] w fun e w' => RetPl w (E.zip Q) e w' := by
  obtain ⟨a1, c1, rfl, _, _, h1⟩ := hE
  obtain ⟨a2, c2, rfl, _, h2⟩ := hQ
  have hch : ∀ k, ∃ u, k < E.length → ∃ b o, a2 = some ⟨b, o, none⟩ ∧ w.cell? ⟨b, o + k, none⟩ = some u ∧ Strs w u (Q.getD k []) := fun k => by
    by_cases hk : k < E.length
    · obtain ⟨b, o, u, r⟩ := h2 k (by omega); exact ⟨u, fun _ => ⟨b, o, r⟩⟩
    · exact ⟨.slice none 0 0, fun h => absurd h hk⟩
  obtain ⟨U, hU⟩ : ∃ U : Nat → Value, ∀ k, k < E.length → ∃ b o, a2 = some ⟨b, o, none⟩ ∧ w.cell? ⟨b, o + k, none⟩ = some (U k) ∧ Strs w (U k) (Q.getD k []) := ⟨fun k => (hch k).choose, fun k hk => (hch k).choose_spec hk⟩
  have H1 : Hid (∀ k, k < E.length → (E.getD k ByteArray.empty).size ≤ 9223372036854775807 ∧ ∃ b o, a1 = some ⟨b, o, none⟩ ∧ w.cell? ⟨b, o + k, none⟩ = some (.string (E.getD k ByteArray.empty))) := h1
  have H2 : Hid (∀ k, k < E.length → ∃ b o, a2 = some ⟨b, o, none⟩ ∧ w.cell? ⟨b, o + k, none⟩ = some (U k) ∧ Strs w (U k) (Q.getD k [])) := hU
  have HLQ : Hid (E.length = Q.length) := hl
  have hmk := run_make47 E.length (by omega)
  have HL0 : Hid (Laying w (w.alloc (.cells (madeCells #[.string ⟨#[]⟩, .slice none 0 0] (E.length * 2)) 35)) E.length 0 (fun k => (.string (E.getD k ByteArray.empty), U k))) := laying_start w _ _
  rw [← hl]
  clear h1 h2 hU hch hl
  go_enter Try.func26, Try.ntmps26
  go_wp2
  go_loopw [6] (fun i wr => ∃ k : Nat, k ≤ E.length ∧ i = .int .i64 k ∧ Laying w wr E.length k (fun k => (.string (E.getD k ByteArray.empty), U k))) (fun i _ => E.length - (intOf i).toNat)
  case atStart => exact ⟨0, Nat.zero_le _, rfl, HL0.out⟩
  case round =>
    obtain ⟨k, hk, rfl, hL⟩ := hrel
    have HL : Hid (Laying w wr E.length k (fun k => (.string (E.getD k ByteArray.empty), U k))) := hL
    clear hL HL0 hmk
    by_cases hlt : k < E.length
    · obtain ⟨hts, b1, o1, rfl, d1⟩ := H1.out k hlt
      obtain ⟨b2, o2, rfl, d2, hu⟩ := H2.out k hlt
      have n1 : b1 < w.heap.size := World.block_lt_of_cell? _ _ d1
      have n2 : b2 < w.heap.size := World.block_lt_of_cell? _ _ d2
      have e1 := cell_later HL.out.below d1
      have e2 := cell_later HL.out.below d2
      have r0 := HL.out.row.cell (i := k * 2) (by omega)
      have r1 := HL.out.row.cell (i := k * 2 + 1) (by omega)
      have a1' : k * 2 / 2 = k := by omega
      have a2' : (k * 2 + 1) / 2 = k := by omega
      have a3' : (k * 2 + 1) % 2 = 1 := by omega
      simp [a1', a2', a3'] at r0 r1
      have f0 := HL.out.row.frozen (k * 2)
      have f1 := HL.out.row.frozen (k * 2 + 1)
      have HSTEP : Hid _ := HL.out.drew.step
      obtain ⟨au, cu, hue⟩ := hu.slice
      rw [hue] at e2
      have HUE : Hid (U k = .slice au (Q.getD k []).length cu) := hue
      have n1a : ¬ b1 = w.heap.size := by omega
      have n2a : ¬ b2 = w.heap.size := by omega
      clear d1 d2 hu hue a1' a2' a3' n1 n2
      have HST2 : Hid (Laying w ((wr.drew.setCell ⟨w.heap.size, k * 2, none⟩ (.string (E.getD k ByteArray.empty))).setCell ⟨w.heap.size, k * 2 + 1, none⟩ (.slice au (Q.getD k []).length cu)) E.length (k + 1) (fun k => (.string (E.getD k ByteArray.empty), U k))) := by
        have := HSTEP.out
        simp only [HUE.out] at this
        exact this
      clear HSTEP HUE
      generalize E.getD k ByteArray.empty = ev at e1 HST2
      generalize (Q.getD k []).length = ql at e2 HST2
      go_wp2
      go_region_held3 (fun w' => w'.cell? ⟨b1, o1 + k, none⟩ = some (.string ev) ∧ w'.cell? ⟨b2, o2 + k, none⟩ = some (.slice au ql cu))
        (first | (go_keep; done) | exact ⟨(World.cell?_of_block (w := wr) (a := ⟨b1, o1 + k, none⟩) ((Below.heap_setCell _ _ _ _ n1a).trans (Below.heap_setCell _ _ _ _ n1a))).trans e1, (World.cell?_of_block (w := wr) (a := ⟨b2, o2 + k, none⟩) ((Below.heap_setCell _ _ _ _ n2a).trans (Below.heap_setCell _ _ _ _ n2a))).trans e2⟩)
        (fail)
      go_wp2
      go_roundw
      case rel => exact ⟨k + 1, by omega, by go_num, HST2.out⟩
      case measure => simp [intOf]; omega
    · have hke : k = E.length := by omega
      have HE : Hid (PlTab wr (.slice (some ⟨w.heap.size, 0, none⟩) E.length E.length) (E.zip Q) ∧ Below w.heap.size w wr) := by
        refine ⟨⟨some ⟨w.heap.size, 0, none⟩, E.length, by rw [List.length_zip, ← HLQ.out, Nat.min_self], by rw [List.length_zip, ← HLQ.out, Nat.min_self]; omega, fun j hj => ?_⟩, HL.out.below⟩
        rw [List.length_zip, ← HLQ.out, Nat.min_self] at hj
        have hz : (E.zip Q).getD j nop = (E.getD j ByteArray.empty, Q.getD j []) := by
          have hq : j < Q.length := by rw [← HLQ.out]; exact hj
          have hjz : j < (E.zip Q).length := by rw [List.length_zip, ← HLQ.out, Nat.min_self]; exact hj
          rw [List.getD_eq_getElem?_getD, List.getElem?_eq_getElem hjz, List.getD_eq_getElem?_getD, List.getElem?_eq_getElem hj, List.getD_eq_getElem?_getD, List.getElem?_eq_getElem hq]
          simp
        rw [hz]
        obtain ⟨hts, _⟩ := H1.out j hj
        obtain ⟨b2, o2, _, _, hu⟩ := H2.out j hj
        have r0 := HL.out.row.cell (i := j * 2) (by omega)
        have r1 := HL.out.row.cell (i := j * 2 + 1) (by omega)
        have a1' : j * 2 / 2 = j := by omega
        have a2' : (j * 2 + 1) / 2 = j := by omega
        have a3' : (j * 2 + 1) % 2 = 1 := by omega
        have hjk : j < k := by omega
        simp [a1', a2', a3', hjk] at r0 r1
        exact ⟨w.heap.size, 0, U j, rfl, by rw [Nat.zero_add]; exact r0, hts, by rw [Nat.zero_add]; exact r1, hu.below HL.out.below⟩
      subst hke
      go_wp2
      go_ret
      exact ⟨_, rfl, HE.out.1, HE.out.2⟩
end Go.Proofs.Qxb6603051a
