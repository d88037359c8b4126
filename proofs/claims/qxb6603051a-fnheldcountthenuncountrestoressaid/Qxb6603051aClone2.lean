/-
  DERIVED. Copies of slices of slices of integers.
-/
import Derived.Test.Qxb6603051aClone
namespace Go.Proofs.Qxb6603051a
open Go.RowKit

def ITabC (w : World) (v : Value) (T : List (List Int)) : Prop := ITab w v T
theorem ITabC.below {w w' : World} {v : Value} {T : List (List Int)} (h : ITabC w v T) (hb : Below w.heap.size w w') : ITabC w' v T := ITab.below h hb
def RetITab (w : World) (T : List (List Int)) (e : Ending) (w' : World) : Prop := ∃ v', e = .returned v' ∧ ITabC w' v' T ∧ Below w.heap.size w w'

/-- Ints, all cells in blocks that P lets; the length is within the capacity. -/
def IntsIn (P : Nat → Prop) (w : World) (v : Value) (xs : List Int) : Prop :=
  Ints w v xs ∧ (∀ b o c, v = .slice (some ⟨b, o, none⟩) xs.length c → 0 < xs.length → P b) ∧ ∃ a cap, v = .slice a xs.length cap ∧ xs.length ≤ cap

theorem IntsIn.keep {P : Nat → Prop} {w w' : World} {v : Value} {xs : List Int} (h : IntsIn P w v xs) (hk : ∀ b, b < w.heap.size → P b → w'.heap[b]? = w.heap[b]?) : IntsIn P w' v xs := by
  obtain ⟨⟨a, cap, rfl, hn, hl, hc⟩, hp, hcap⟩ := h
  refine ⟨⟨a, cap, rfl, hn, hl, fun k hk' => ?_⟩, hp, hcap⟩
  obtain ⟨b, o, rfl, hcell⟩ := hc k hk'
  refine ⟨b, o, rfl, (World.cell?_of_block (w := w) (a := ⟨b, o + k, none⟩) (hk b (World.block_lt_of_cell? _ _ hcell) (hp b o cap rfl (by omega)))).trans hcell⟩

/-- The copy at the head of round k. -/
def ICopyOuter (w wr : World) (T : List (List Int)) (k : Nat) : Prop :=
  Below w.heap.size w wr ∧ ∃ U : Nat → Value, wr.rowIs w.heap.size 24 T.length (fun i => if i < k then U i else .slice none 0 0) ∧ ∀ i, i < k → IntsIn (fun b => w.heap.size < b) wr (U i) (T.getD i [])

theorem icopy_start (w : World) (T : List (List Int)) : ICopyOuter w (w.alloc (.cells (madeCells #[.slice none 0 0] T.length) 24)) T 0 :=
  ⟨(Below.refl _ _).alloc (Nat.le_refl _) _, fun _ => .slice none 0 0, (World.rowIs_made w _ T.length 24).congr (fun j _ => by simp), fun i hi => absurd hi (Nat.not_lt_zero _)⟩

theorem icopy_step {w wr w1 : World} {T : List (List Int)} {k : Nat} {v' : Value} (h : ICopyOuter w wr T k) (hb : Below wr.heap.size wr w1) (hv : IntsIn (fun b => w.heap.size < b) w1 v' (T.getD k [])) : ICopyOuter w (w1.setCell ⟨w.heap.size, k, none⟩ v') T (k + 1) := by
  obtain ⟨hb0, U, hr, hu⟩ := h
  have hlt : w.heap.size < wr.heap.size := hr.lt
  have hblk : ∀ b, b ≠ w.heap.size → (w1.setCell ⟨w.heap.size, k, none⟩ v').heap[b]? = w1.heap[b]? := fun b hne => Below.heap_setCell _ _ _ _ hne
  refine ⟨(hb0.trans (hb.mono (by omega))).setCell (Nat.le_refl _) _, fun i => if i < k then U i else v', ?_, fun i hi => ?_⟩
  · refine ((hr.of_block (hb.block _ hlt)).set k _).congr (fun i _ => ?_)
    by_cases e : i = k
    · subst e; simp
    · rw [if_neg e]
      by_cases hik : i < k
      · simp [hik, Nat.lt_succ_of_lt hik]
      · rw [if_neg hik, if_neg (by omega)]
  · by_cases e : i < k
    · simp only [e, if_true]
      exact ((hu i e).keep fun b hbl _ => hb.block b hbl).keep fun b _ hp => hblk b (by omega)
    · have : i = k := by omega
      subst this
      simp only [e, if_false]
      exact hv.keep fun b _ hp => hblk b (by omega)

theorem icopy_end {w wr : World} {T : List (List Int)} (h : ICopyOuter w wr T T.length) (hl : T.length ≤ 9223372036854775807) : ITabC wr (.slice (some ⟨w.heap.size, 0, none⟩) T.length T.length) T := by
  obtain ⟨hb, U, hrow, hu⟩ := h
  refine ⟨_, _, rfl, hl, fun k hk => ⟨w.heap.size, 0, U k, rfl, ?_, (hu k hk).1⟩⟩
  rw [Nat.zero_add, hrow.cell hk, if_pos hk]

/-- The clone of a row lies in new memory. -/
def RetIntsIn (w : World) (S : List Int) (e : Ending) (w' : World) : Prop := ∃ v', e = .returned v' ∧ IntsIn (fun b => w.heap.size ≤ b) w' v' S ∧ Below w.heap.size w w' ∧ ∃ a c, v' = .slice a S.length c

set_option maxHeartbeats 800000 in
theorem cloneIntsIn_any (v : Value) (S : List Int) (w : World) (h : Ints w v S) (hn : S.length ≤ 1048576) : Calls Try.prog 13 #[v] w fun e w' => RetIntsIn w S e w' := by
  have h0 := h
  obtain ⟨a, cap, rfl, hnil, hl, hc⟩ := h
  have q1 : ∀ (w : World) (a : Option Addr) (n c : Nat), (binOp .eql 24 (.slice a n c) (.slice none 0 0)).run Try.prog w = .ok (.bool a.isNone) w := fun w a n c => Lib.run_eql_slice_nil w _ _ _ _ _ _ _ Try.underlying24
  cases a with
  | none =>
    have hS := hnil rfl
    subst hS
    clear hc
    go_enter Try.func13, Try.ntmps13
    go_wp2
    go_ret
    exact ⟨_, rfl, ⟨⟨none, 0, rfl, fun _ => rfl, by simp, fun k hk => absurd hk (Nat.not_lt_zero _)⟩, (fun b o c e => by cases e), _, _, rfl, Nat.le_refl _⟩, Below.refl _ _, _, _, rfl⟩
  | some ad =>
    have hmk := run_make_row' (P := Try.prog) 24 3 (.int .i64 0) 8 Try.underlying24 Try.info3 rfl .i64 .i64 S.length (by omega) (by omega)
    have q1' : (some ad : Option Addr).isNone = false := rfl
    go_enter Try.func13, Try.ntmps13
    go_wp2
    go_loopw [4] (fun i wr => ∃ k : Nat, k ≤ S.length ∧ i = .int .i64 k ∧ Filling w wr 3 S.length k (fun j => .int .i64 (S.getD j 0)) (.int .i64 0)) (fun i _ => S.length - (intOf i).toNat)
    case atStart => exact ⟨0, Nat.zero_le _, rfl, filling_start _ _ _ _ _⟩
    case round =>
      obtain ⟨k, hk, rfl, hF⟩ := hrel
      clear hmk q1 q1'
      by_cases hlt : k < S.length
      · obtain ⟨b, o, hadb, hcell⟩ := hc k hlt
        have hadb' := Option.some.inj hadb
        subst hadb'
        have c1 := cell_later hF.below hcell
        have c2 := hF.row.cell hlt
        rw [if_neg (Nat.lt_irrefl _)] at c2
        have f2 := hF.row.frozen k
        have HF := hF.step
        generalize S.getD k 0 = x at c1 HF
        clear hc hcell h0
        go_wp2
        go_roundw
        case rel => exact ⟨k + 1, by omega, by go_num, HF⟩
        case measure => simp [intOf]; omega
      · have : k = S.length := by omega
        subst this
        go_wp2
        go_ret
        exact ⟨_, rfl, ⟨⟨_, _, rfl, (fun h => by cases h), hl, fun k hk => ⟨_, 0, rfl, by rw [Nat.zero_add]; exact hF.cell (k := 0) hk rfl⟩⟩, (fun b o c e _ => by cases e; exact Nat.le_refl _), _, _, rfl, Nat.le_refl _⟩, hF.below, _, _, rfl⟩

set_option maxHeartbeats 800000 in
theorem cloneITab_any (v : Value) (T : List (List Int)) (w : World) (h : ITab w v T) (hn : T.length ≤ 1048576) (hrows : ∀ k, k < T.length → (T.getD k []).length ≤ 1048576) : Calls Try.prog 31 #[v] w fun e w' => RetITab w T e w' := by
  obtain ⟨a, cap, rfl, hl, hc⟩ := h
  have q1 : ∀ (w : World) (a : Option Addr) (n c : Nat), (binOp .eql 52 (.slice a n c) (.slice none 0 0)).run Try.prog w = .ok (.bool a.isNone) w := fun w a n c => Lib.run_eql_slice_nil w _ _ _ _ _ _ _ Try.underlying52
  cases a with
  | none =>
    have hT : T = [] := by
      cases T with
      | nil => rfl
      | cons x l => obtain ⟨b, o, u, e, _⟩ := hc 0 (by simp); cases e
    subst hT
    clear hc
    go_enter Try.func31, Try.ntmps31
    go_wp2
    go_ret
    exact ⟨_, rfl, ⟨none, 0, rfl, by simp, fun k hk => absurd hk (Nat.not_lt_zero _)⟩, Below.refl _ _⟩
  | some ad =>
    have hmk := run_make_row' (P := Try.prog) 52 24 (.slice none 0 0) 24 Try.underlying52 Try.info24 rfl .i64 .i64 T.length (by omega) (by omega)
    have q1' : (some ad : Option Addr).isNone = false := rfl
    go_enter Try.func31, Try.ntmps31
    go_wp2
    go_loopw [4] (fun i wr => ∃ k : Nat, k ≤ T.length ∧ i = .int .i64 k ∧ ICopyOuter w wr T k) (fun i _ => T.length - (intOf i).toNat)
    case atStart => exact ⟨0, Nat.zero_le _, rfl, icopy_start w T⟩
    case round =>
      obtain ⟨k, hk, rfl, hO⟩ := hrel
      clear hmk q1 q1'
      by_cases hlt : k < T.length
      · obtain ⟨b, o, u, hadb, hcell, hu⟩ := hc k hlt
        have hadb' := Option.some.inj hadb
        subst hadb'
        have c1 := cell_later hO.1 hcell
        have hu2 := hu.below hO.1
        have hrl := hrows k hlt
        have HSTEP : Hid (∀ w1 v', Below wr.heap.size wr w1 → IntsIn (fun b => w.heap.size < b) w1 v' (T.getD k []) → ICopyOuter w (w1.setCell ⟨w.heap.size, k, none⟩ v') T (k + 1)) := fun w1 v' h1 h2 => icopy_step hO h1 h2
        have HCOL : Hid (∀ wi, Below wr.heap.size wr wi → wi.frozen? ⟨w.heap.size, k, none⟩ = false ∧ ∃ uu, wi.cell? ⟨w.heap.size, k, none⟩ = some uu) := by
          intro wi hb
          obtain ⟨_, U, hr, _⟩ := hO
          exact ⟨by rw [hb.frozen (p := ⟨w.heap.size, k, none⟩) hr.lt]; exact hr.frozen k, _, by rw [hb.cell (p := ⟨w.heap.size, k, none⟩) hr.lt]; exact hr.cell hlt⟩
        have hwlt : w.heap.size < wr.heap.size := by obtain ⟨_, U, hr, _⟩ := hO; exact hr.lt
        generalize T.getD k [] = row at *
        obtain ⟨au, cu, hue⟩ := hu2.slice
        subst hue
        have HU : Hid (Ints wr (.slice au row.length cu) row) := hu2
        clear hc hcell hu hu2 hO hrows
        go_wp2_with fail
        refine (cloneIntsIn_any _ row _ HU.out hrl).mono ?_
        rintro e w1 ⟨v', rfl, hv', hb1, av, cv, hve⟩
        have HN := HSTEP.out w1 v' hb1 ⟨hv'.1, fun b o c e h0 => Nat.lt_of_lt_of_le hwlt (hv'.2.1 b o c e h0), hv'.2.2⟩
        have hcol := HCOL.out w1 hb1
        obtain ⟨f1, uu, c2⟩ := hcol
        rw [hve] at HN ⊢
        clear hv' hb1 hve
        go_wp2
        go_roundw
        case rel => exact ⟨k + 1, by omega, by go_num, HN⟩
        case measure => simp [intOf]; omega
      · have : k = T.length := by omega
        subst this
        have HE := icopy_end hO hl
        go_wp2
        go_ret
        exact ⟨_, rfl, HE, hO.1⟩


end Go.Proofs.Qxb6603051a
