import Derived.Test.Qxb6600624aRows
import Derived.Test.Qxb6600624aMem
import Derived.Deep.OwnRows
import Derived.BigQuiet
namespace Go.Proofs.Qxb6600624a
open Go.RowKit

theorem Try.info3 : (Try.prog.info? 3).map (fun i => (i.zero, i.size, i.bytes)) = some (some (.int .i64 0), 1, 8) := by kernel_rfl
theorem Try.info27 : (Try.prog.info? 27).map (fun i => (i.zero, i.size, i.bytes)) = some (some (.slice none 0 0), 1, 24) := by kernel_rfl

/-- Ints, all cells in blocks that P lets. -/
def IntsIn (P : Nat → Prop) (w : World) (v : Value) (xs : List Int) : Prop :=
  ∃ a cap, v = .slice a xs.length cap ∧ (a = none → xs = []) ∧ ∀ k, k < xs.length → ∃ b o, P b ∧ a = some ⟨b, o, none⟩ ∧ w.cell? ⟨b, o + k, none⟩ = some (.int .i64 (xs.getD k 0))

theorem IntsIn.ints {P : Nat → Prop} {w : World} {v : Value} {xs : List Int} (h : IntsIn P w v xs) : Ints w v xs := by
  obtain ⟨a, cap, h1, h2, h3⟩ := h
  exact ⟨a, cap, h1, h2, fun k hk => by obtain ⟨b, o, _, e, c⟩ := h3 k hk; exact ⟨b, o, e, c⟩⟩

theorem IntsIn.keep {P : Nat → Prop} {w w' : World} {v : Value} {xs : List Int} (h : IntsIn P w v xs) (hk : ∀ b, b < w.heap.size → P b → w'.heap[b]? = w.heap[b]?) : IntsIn P w' v xs := by
  obtain ⟨a, cap, h1, h2, h3⟩ := h
  refine ⟨a, cap, h1, h2, fun k hk' => ?_⟩
  obtain ⟨b, o, p, e, c⟩ := h3 k hk'
  exact ⟨b, o, p, e, (World.cell?_of_block (w := w) (a := ⟨b, o + k, none⟩) (hk b (World.block_lt_of_cell? _ _ c) p)).trans c⟩

/-- The copy at the head of round k: cb is the new outer row. -/
def CopyOuter (w wr : World) (T : List (List Int)) (k : Nat) : Prop :=
  Below w.heap.size w wr ∧ ∃ U : Nat → Value, wr.rowIs w.heap.size 27 T.length (fun i => if i < k then U i else .slice none 0 0) ∧ ∀ i, i < k → IntsIn (fun b => w.heap.size < b) wr (U i) (T.getD i [])

/-- .. and in the inner loop, j cells of row k filled; rb is the new row. -/
def CopyInner (_w wr wi : World) (row : List Int) (j : Nat) : Prop :=
  Below wr.heap.size wr wi ∧ wi.rowIs wr.heap.size 3 row.length (fun i => if i < j then .int .i64 (row.getD i 0) else .int .i64 0)

theorem copy_start (w : World) (T : List (List Int)) : CopyOuter w (w.alloc (.cells (madeCells #[.slice none 0 0] T.length) 27)) T 0 :=
  ⟨(Below.refl _ _).alloc (Nat.le_refl _) _, fun _ => .slice none 0 0, (World.rowIs_made w _ T.length 27).congr (fun j _ => by simp), fun i hi => absurd hi (Nat.not_lt_zero _)⟩

theorem copy_nil {w wr : World} {T : List (List Int)} {k : Nat} (h : CopyOuter w wr T k) (he : T.getD k [] = []) : CopyOuter w wr T (k + 1) := by
  obtain ⟨hb, U, hr, hu⟩ := h
  refine ⟨hb, fun i => if i < k then U i else .slice none 0 0, hr.congr (fun i _ => ?_), fun i hi => ?_⟩
  · by_cases e : i < k
    · simp [e, Nat.lt_succ_of_lt e]
    · by_cases e' : i < k + 1 <;> simp [e, e']
  · by_cases e : i < k
    · simp only [e, if_true]; exact hu i e
    · have : i = k := by omega
      subst this
      simp only [e, if_false, he]
      exact ⟨none, 0, rfl, fun _ => rfl, fun k hk => absurd hk (Nat.not_lt_zero _)⟩

theorem copy_row_start (w wr : World) (row : List Int) (_ : Below w.heap.size w wr) : CopyInner w wr (wr.alloc (.cells (madeCells #[.int .i64 0] row.length) 3)) row 0 :=
  ⟨(Below.refl _ _).alloc (Nat.le_refl _) _, (World.rowIs_made wr _ row.length 3).congr (fun j _ => by simp)⟩

theorem copy_row_step {w wr wi : World} {row : List Int} {j : Nat} (h : CopyInner w wr wi row j) : CopyInner w wr (wi.setCell ⟨wr.heap.size, j, none⟩ (.int .i64 (row.getD j 0))) row (j + 1) := by
  obtain ⟨hb, hr⟩ := h
  refine ⟨hb.setCell (Nat.le_refl _) _, (hr.set j _).congr (fun i _ => ?_)⟩
  by_cases e : i = j
  · subst e; simp
  · rw [if_neg e]
    by_cases hlt : i < j
    · rw [if_pos hlt, if_pos (by omega)]
    · rw [if_neg hlt, if_neg (by omega)]

theorem copy_row_done {w wr wi : World} {T : List (List Int)} {k : Nat} (h : CopyOuter w wr T k) (hI : CopyInner w wr wi (T.getD k []) (T.getD k []).length) :
    CopyOuter w (wi.setCell ⟨w.heap.size, k, none⟩ (.slice (some ⟨wr.heap.size, 0, none⟩) (T.getD k []).length (T.getD k []).length)) T (k + 1) := by
  obtain ⟨hb, U, hr, hu⟩ := h
  obtain ⟨hb', hr'⟩ := hI
  have hlt : w.heap.size < wr.heap.size := hr.lt
  have hblk : ∀ b, b ≠ w.heap.size → (wi.setCell ⟨w.heap.size, k, none⟩ (.slice (some ⟨wr.heap.size, 0, none⟩) (T.getD k []).length (T.getD k []).length)).heap[b]? = wi.heap[b]? := fun b hne => Below.heap_setCell _ _ _ _ hne
  refine ⟨(hb.trans (hb'.mono (by omega))).setCell (Nat.le_refl _) _, fun i => if i < k then U i else .slice (some ⟨wr.heap.size, 0, none⟩) (T.getD k []).length (T.getD k []).length, ?_, fun i hi => ?_⟩
  · refine ((hr.of_block (hb'.block _ hlt)).set k _).congr (fun i _ => ?_)
    by_cases e : i = k
    · subst e; simp
    · rw [if_neg e]
      by_cases hik : i < k
      · simp [hik, Nat.lt_succ_of_lt hik]
      · rw [if_neg hik, if_neg (by omega)]
  · by_cases e : i < k
    · simp only [e, if_true]
      exact (hu i e).keep fun b hbl hp => by rw [hblk b (by omega), hb'.block b hbl]
    · have : i = k := by omega
      subst this
      simp only [e, if_false]
      refine ⟨some ⟨wr.heap.size, 0, none⟩, _, rfl, (fun h => by cases h), fun j hj => ⟨wr.heap.size, 0, hlt, rfl, ?_⟩⟩
      rw [Nat.zero_add, World.cell?_of_block (w := wi) (hblk _ (by simp; omega)), hr'.cell hj, if_pos hj]

theorem copy_end {w wr : World} {T : List (List Int)} (h : CopyOuter w wr T T.length) (hl : T.length ≤ 9223372036854775807) (hr : ∀ k, k < T.length → (T.getD k []).length ≤ 9223372036854775807) :
    Tab wr (.slice (some ⟨w.heap.size, 0, none⟩) T.length T.length) T := by
  obtain ⟨hb, U, hrow, hu⟩ := h
  refine ⟨_, _, rfl, hl, fun k hk => ⟨hr k hk, w.heap.size, 0, U k, rfl, ?_, (hu k hk).ints⟩⟩
  rw [Nat.zero_add, hrow.cell hk, if_pos hk]

/-- The call returned a slice that holds T; nothing that was there has turned. -/
def RetTab (w : World) (T : List (List Int)) (e : Ending) (w' : World) : Prop := ∃ v', e = .returned v' ∧ Tab w' v' T ∧ Below w.heap.size w w'

set_option maxHeartbeats 1000000 in
theorem copy_any (v : Value) (T : List (List Int)) (w : World) (h : Tab w v T) (hn : T.length ≤ 131072) (hrows : ∀ k, k < T.length → (T.getD k []).length ≤ 131072) :
    Calls Try.prog 10 #[v] w fun e w' => RetTab w T e w' := by
  obtain ⟨a, cap, rfl, hl, hc⟩ := h
  have q1 : ∀ (w : World) (a : Option Addr) (n c : Nat), (binOp .eql 22 (.slice a n c) (.slice none 0 0)).run Try.prog w = .ok (.bool a.isNone) w := fun w a n c => Lib.run_eql_slice_nil w _ _ _ _ _ _ _ Try.underlying22
  have q2 : ∀ (w : World) (a : Option Addr) (n c : Nat), (binOp .eql 27 (.slice a n c) (.slice none 0 0)).run Try.prog w = .ok (.bool a.isNone) w := fun w a n c => Lib.run_eql_slice_nil w _ _ _ _ _ _ _ Try.underlying27
  cases a with
  | none =>
    have hT : T = [] := by
      cases T with
      | nil => rfl
      | cons x l => obtain ⟨_, b, o, u, e, _⟩ := hc 0 (by simp); cases e
    subst hT
    go_enter Try.func10, Try.ntmps10
    go_wp2
    go_ret
    exact ⟨_, rfl, ⟨none, 0, rfl, by simp, fun k hk => absurd hk (Nat.not_lt_zero _)⟩, Below.refl _ _⟩
  | some ad =>
    have hmk := run_make_row' (P := Try.prog) 22 27 (.slice none 0 0) 24 Try.underlying22 Try.info27 rfl .i64 .i64 T.length (by omega) (by omega)
    have q1' : (some ad : Option Addr).isNone = false := rfl
    go_enter Try.func10, Try.ntmps10
    go_wp2
    go_loopw [4] (fun i wr => ∃ k : Nat, k ≤ T.length ∧ i = .int .i64 k ∧ CopyOuter w wr T k) (fun i _ => T.length - (intOf i).toNat)
    case atStart => exact ⟨0, Nat.zero_le _, rfl, copy_start w T⟩
    case round =>
      obtain ⟨k, hk, rfl, hO⟩ := hrel
      clear hmk q1 q1'
      by_cases hlt : k < T.length
      · obtain ⟨hrl, b, o, x, hadb, hcell, a', cap', rfl, hn', hc'⟩ := hc k hlt
        have hadb' := Option.some.inj hadb
        subst hadb'
        have hcell1 := cell_later hO.1 hcell
        have hr131 := hrows k hlt
        have hcc : ∀ j, j < (T.getD k []).length → ∃ b o, a' = some ⟨b, o, none⟩ ∧ wr.cell? ⟨b, o + j, none⟩ = some (.int .i64 ((T.getD k []).getD j 0)) := fun j hj => by
          obtain ⟨b, o, e, c⟩ := hc' j hj
          exact ⟨b, o, e, cell_later hO.1 c⟩
        cases a' with
        | none =>
          have hnil := hn' rfl
          have HO := copy_nil hO hnil
          rw [hnil] at hcell1
          have q3 : (none : Option Addr).isNone = true := rfl
          clear hc hc' hn' hcc hnil hcell
          go_wp2
          go_roundw
          case rel => exact ⟨k + 1, by omega, by go_num, HO⟩
          case measure => simp [intOf]; omega
        | some ad' =>
          have q3 : (some ad' : Option Addr).isNone = false := rfl
          have HD := fun wi (hI : CopyInner w wr wi (T.getD k []) (T.getD k []).length) => copy_row_done hO hI
          have HH : Hid (∀ wi, CopyInner w wr wi (T.getD k []) (T.getD k []).length → CopyOuter w (wi.setCell ⟨w.heap.size, k, none⟩ (.slice (some ⟨wr.heap.size, 0, none⟩) (T.getD k []).length (T.getD k []).length)) T (k + 1)) := HD
          clear HD
          have hcol : ∀ wi, Below wr.heap.size wr wi → wi.frozen? ⟨w.heap.size, k, none⟩ = false ∧ ∃ uu, wi.cell? ⟨w.heap.size, k, none⟩ = some uu := by
            intro wi hb
            obtain ⟨_, U, hr, _⟩ := hO
            exact ⟨by rw [hb.frozen (p := ⟨w.heap.size, k, none⟩) hr.lt]; exact hr.frozen k, _, by rw [hb.cell (p := ⟨w.heap.size, k, none⟩) hr.lt]; exact hr.cell hlt⟩
          have hcol' : Hid (∀ wi, Below wr.heap.size wr wi → wi.frozen? ⟨w.heap.size, k, none⟩ = false ∧ ∃ uu, wi.cell? ⟨w.heap.size, k, none⟩ = some uu) := hcol
          generalize hrow : T.getD k [] = row at *
          have hmk := run_make_row' (P := Try.prog) 27 3 (.int .i64 0) 8 Try.underlying27 Try.info3 rfl .i64 .i64 row.length (by omega) (by omega)
          have hst := copy_row_start w wr row hO.1
          clear hc hc' hn' hcell hO hcol hrow hrows
          go_wp2
          go_loopw [6] (fun i wi => ∃ j : Nat, j ≤ row.length ∧ i = .int .i64 j ∧ CopyInner w wr wi row j) (fun i _ => row.length - (intOf i).toNat)
          case atStart => exact ⟨0, Nat.zero_le _, rfl, hst⟩
          case round =>
            obtain ⟨j, hj, rfl, hI⟩ := hrel
            rename_i wi _
            clear hst hmk q2
            have hcell2 := cell_later hI.1 hcell1
            by_cases hjl : j < row.length
            · obtain ⟨b', o', hb', hcj⟩ := hcc j hjl
              have hb'' := Option.some.inj hb'
              subst hb''
              have hcj2 := cell_later hI.1 hcj
              have hs1 := hI.2.cell hjl
              have hs2 := hI.2.frozen j
              have HI := copy_row_step hI
              rw [if_neg (Nat.lt_irrefl _)] at hs1
              clear hcc hcj hcell1 hb'
              generalize hx : row.getD j 0 = x at *
              clear hx
              go_wp2
              go_roundw
              case rel => exact ⟨j + 1, by omega, by go_num, HI⟩
              case measure => simp [intOf]; omega
            · have hje : j = row.length := by omega
              subst hje
              have HO := HH.out _ hI
              obtain ⟨hs2, uu, hs1⟩ := hcol'.out _ hI.1
              clear hcc hcell1
              go_wp2
              go_roundw
              case rel => exact ⟨k + 1, by omega, by go_num, HO⟩
              case measure => simp [intOf]; omega
      · have : k = T.length := by omega
        subst this
        have HE := copy_end hO hl (fun k hk => (hc k hk).1)
        go_wp2
        go_ret
        exact ⟨_, rfl, HE, hO.1⟩

end Go.Proofs.Qxb6600624a
