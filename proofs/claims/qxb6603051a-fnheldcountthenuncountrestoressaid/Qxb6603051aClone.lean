/-
  DERIVED. Copies of slices.
-/
import Derived.Test.Qxb6603051aSets
namespace Go.Proofs.Qxb6603051a
open Go.RowKit

def RetInts (w : World) (S : List Int) (e : Ending) (w' : World) : Prop := ∃ v', e = .returned v' ∧ Ints w' v' S ∧ Below w.heap.size w w'
/-- .. the length within the capacity. -/
def StrsC (w : World) (v : Value) (xs : List ByteArray) : Prop := Strs w v xs ∧ ∃ a cap, v = .slice a xs.length cap ∧ xs.length ≤ cap
def STabC (w : World) (v : Value) (T : List (List ByteArray)) : Prop :=
  ∃ a cap, v = .slice a T.length cap ∧ T.length ≤ 9223372036854775807 ∧ (∀ k, k < T.length → ∃ b o u, a = some ⟨b, o, none⟩ ∧ w.cell? ⟨b, o + k, none⟩ = some u ∧ StrsC w u (T.getD k []))
theorem STabC.tab {w : World} {v : Value} {T : List (List ByteArray)} (h : STabC w v T) : STab w v T := by
  obtain ⟨a, cap, h1, h2, h3⟩ := h
  exact ⟨a, cap, h1, h2, fun k hk => by obtain ⟨b, o, u, e, c, hs, _⟩ := h3 k hk; exact ⟨b, o, u, e, c, hs⟩⟩
theorem StrsC.below {w w' : World} {v : Value} {xs : List ByteArray} (h : StrsC w v xs) (hb : Below w.heap.size w w') : StrsC w' v xs := ⟨h.1.below hb, h.2⟩
theorem STabC.below {w w' : World} {v : Value} {T : List (List ByteArray)} (h : STabC w v T) (hb : Below w.heap.size w w') : STabC w' v T := by
  obtain ⟨a, cap, rfl, hl, hc⟩ := h
  refine ⟨a, cap, rfl, hl, fun k hk => ?_⟩
  obtain ⟨b, o, u, rfl, hcell, hu⟩ := hc k hk
  exact ⟨b, o, u, rfl, cell_later hb hcell, hu.below hb⟩
def RetSTab (w : World) (T : List (List ByteArray)) (e : Ending) (w' : World) : Prop := ∃ v', e = .returned v' ∧ STabC w' v' T ∧ Below w.heap.size w w'

/-- A row of n cells, being filled by f. -/
structure Filling (w wr : World) (t : TypeId) (n k : Nat) (f : Nat → Value) (z : Value) : Prop where
  below : Below w.heap.size w wr
  row : wr.rowIs w.heap.size t n (fun i => if i < k then f i else z)

theorem filling_start (w : World) (t : TypeId) (n : Nat) (f : Nat → Value) (z : Value) : Filling w (w.alloc (.cells (madeCells #[z] n) t)) t n 0 f z :=
  ⟨(Below.refl _ _).alloc (Nat.le_refl _) _, (World.rowIs_made w z n t).congr (fun j _ => by simp)⟩

theorem Filling.step {w wr : World} {t : TypeId} {n k : Nat} {f : Nat → Value} {z : Value} (h : Filling w wr t n k f z) : Filling w (wr.setCell ⟨w.heap.size, k, none⟩ (f k)) t n (k + 1) f z :=
  ⟨h.below.setCell (Nat.le_refl _) _, (h.row.set k _).congr (fun i _ => by
    by_cases e : i = k
    · subst e; simp
    · rw [if_neg e]
      by_cases hlt : i < k
      · rw [if_pos hlt, if_pos (by omega)]
      · rw [if_neg hlt, if_neg (by omega)])⟩

theorem Filling.cell {w wr : World} {t : TypeId} {n k i : Nat} {f : Nat → Value} {z : Value} (h : Filling w wr t n n f z) (hi : i < n) (_ : k = k) : wr.cell? ⟨w.heap.size, i, none⟩ = some (f i) := by
  rw [h.row.cell hi, if_pos hi]

set_option maxHeartbeats 800000 in
theorem cloneInts_any (v : Value) (S : List Int) (w : World) (h : Ints w v S) (hn : S.length ≤ 1048576) : Calls Try.prog 13 #[v] w fun e w' => RetInts w S e w' := by
  obtain ⟨a, cap, rfl, hnil, hl, hc⟩ := h
  have q1 : ∀ (w : World) (a : Option Addr) (n c : Nat), (binOp .eql 24 (.slice a n c) (.slice none 0 0)).run Try.prog w = .ok (.bool a.isNone) w := fun w a n c => Lib.run_eql_slice_nil w _ _ _ _ _ _ _ Try.underlying24
  cases a with
  | none =>
    have hS := hnil rfl
    subst hS
    clear hc
    go_enter Try.func13, Try.ntmps13
    go_wp2
    go_ret
    exact ⟨_, rfl, ⟨none, 0, rfl, fun _ => rfl, by simp, fun k hk => absurd hk (Nat.not_lt_zero _)⟩, Below.refl _ _⟩
  | some ad =>
    have hmk := run_make_row' (P := Try.prog) 24 3 (.int .i64 0) 8 Try.underlying24 Try.info3 rfl .i64 .i64 S.length (by omega) (by omega)
    have q1' : (some ad : Option Addr).isNone = false := rfl
    go_enter Try.func13, Try.ntmps13
    go_wp2
    go_loopw [4] (fun i wr => ∃ k : Nat, k ≤ S.length ∧ i = .int .i64 k ∧ Filling w wr 3 S.length k (fun j => .int .i64 (S.getD j 0)) (.int .i64 0)) (fun i _ => S.length - (intOf i).toNat)
    case atStart => exact ⟨0, Nat.zero_le _, rfl, filling_start _ _ _ _ _⟩
    case round =>
      obtain ⟨k, hk, rfl, hF⟩ := hrel
      clear hmk q1 q1'
      by_cases hlt : k < S.length
      · obtain ⟨b, o, hadb, hcell⟩ := hc k hlt
        have hadb' := Option.some.inj hadb
        subst hadb'
        have c1 := cell_later hF.below hcell
        have c2 := hF.row.cell hlt
        rw [if_neg (Nat.lt_irrefl _)] at c2
        have f2 := hF.row.frozen k
        have HF := hF.step
        generalize S.getD k 0 = x at c1 HF
        clear hc hcell
        go_wp2
        go_roundw
        case rel => exact ⟨k + 1, by omega, by go_num, HF⟩
        case measure => simp [intOf]; omega
      · have : k = S.length := by omega
        subst this
        go_wp2
        go_ret
        exact ⟨_, rfl, ⟨_, _, rfl, (fun h => by cases h), hl, fun k hk => ⟨_, 0, rfl, by rw [Nat.zero_add]; exact hF.cell (k := 0) hk rfl⟩⟩, hF.below⟩

/-- Strs, all cells in blocks that P lets; the length is within the capacity. -/
def StrsIn (P : Nat → Prop) (w : World) (v : Value) (xs : List ByteArray) : Prop :=
  Strs w v xs ∧ (∀ b o c, v = .slice (some ⟨b, o, none⟩) xs.length c → 0 < xs.length → P b) ∧ ∃ a cap, v = .slice a xs.length cap ∧ xs.length ≤ cap

theorem StrsIn.keep {P : Nat → Prop} {w w' : World} {v : Value} {xs : List ByteArray} (h : StrsIn P w v xs) (hk : ∀ b, b < w.heap.size → P b → w'.heap[b]? = w.heap[b]?) : StrsIn P w' v xs := by
  obtain ⟨⟨a, cap, rfl, hn, hl, hc⟩, hp, hcap⟩ := h
  refine ⟨⟨a, cap, rfl, hn, hl, fun k hk' => ?_⟩, hp, hcap⟩
  obtain ⟨hs, b, o, rfl, hcell⟩ := hc k hk'
  refine ⟨hs, b, o, rfl, (World.cell?_of_block (w := w) (a := ⟨b, o + k, none⟩) (hk b (World.block_lt_of_cell? _ _ hcell) (hp b o cap rfl (by omega)))).trans hcell⟩

/-- The copy at the head of round k. -/
def CopyOuter (w wr : World) (T : List (List ByteArray)) (k : Nat) : Prop :=
  Below w.heap.size w wr ∧ ∃ U : Nat → Value, wr.rowIs w.heap.size 22 T.length (fun i => if i < k then U i else .slice none 0 0) ∧ ∀ i, i < k → StrsIn (fun b => w.heap.size < b) wr (U i) (T.getD i [])

theorem copy_start (w : World) (T : List (List ByteArray)) : CopyOuter w (w.alloc (.cells (madeCells #[.slice none 0 0] T.length) 22)) T 0 :=
  ⟨(Below.refl _ _).alloc (Nat.le_refl _) _, fun _ => .slice none 0 0, (World.rowIs_made w _ T.length 22).congr (fun j _ => by simp), fun i hi => absurd hi (Nat.not_lt_zero _)⟩

theorem copy_step {w wr w1 : World} {T : List (List ByteArray)} {k : Nat} {v' : Value} (h : CopyOuter w wr T k) (hb : Below wr.heap.size wr w1) (hv : StrsIn (fun b => w.heap.size < b) w1 v' (T.getD k [])) : CopyOuter w (w1.setCell ⟨w.heap.size, k, none⟩ v') T (k + 1) := by
  obtain ⟨hb0, U, hr, hu⟩ := h
  have hlt : w.heap.size < wr.heap.size := hr.lt
  have hblk : ∀ b, b ≠ w.heap.size → (w1.setCell ⟨w.heap.size, k, none⟩ v').heap[b]? = w1.heap[b]? := fun b hne => Below.heap_setCell _ _ _ _ hne
  refine ⟨(hb0.trans (hb.mono (by omega))).setCell (Nat.le_refl _) _, fun i => if i < k then U i else v', ?_, fun i hi => ?_⟩
  · refine ((hr.of_block (hb.block _ hlt)).set k _).congr (fun i _ => ?_)
    by_cases e : i = k
    · subst e; simp
    · rw [if_neg e]
      by_cases hik : i < k
      · simp [hik, Nat.lt_succ_of_lt hik]
      · rw [if_neg hik, if_neg (by omega)]
  · by_cases e : i < k
    · simp only [e, if_true]
      exact ((hu i e).keep fun b hbl _ => hb.block b hbl).keep fun b _ hp => hblk b (by omega)
    · have : i = k := by omega
      subst this
      simp only [e, if_false]
      exact hv.keep fun b _ hp => hblk b (by omega)

theorem copy_end {w wr : World} {T : List (List ByteArray)} (h : CopyOuter w wr T T.length) (hl : T.length ≤ 9223372036854775807) : STabC wr (.slice (some ⟨w.heap.size, 0, none⟩) T.length T.length) T := by
  obtain ⟨hb, U, hrow, hu⟩ := h
  refine ⟨_, _, rfl, hl, fun k hk => ⟨w.heap.size, 0, U k, rfl, ?_, (hu k hk).1, (hu k hk).2.2⟩⟩
  rw [Nat.zero_add, hrow.cell hk, if_pos hk]

/-- The clone of a row lies in new memory. -/
def RetStrsIn (w : World) (S : List ByteArray) (e : Ending) (w' : World) : Prop := ∃ v', e = .returned v' ∧ StrsIn (fun b => w.heap.size ≤ b) w' v' S ∧ Below w.heap.size w w' ∧ ∃ a c, v' = .slice a S.length c

set_option maxHeartbeats 800000 in
theorem cloneStrsIn_any (v : Value) (S : List ByteArray) (w : World) (h : Strs w v S) (hn : S.length ≤ 1048576) : Calls Try.prog 11 #[v] w fun e w' => RetStrsIn w S e w' := by
  have h0 := h
  obtain ⟨a, cap, rfl, hnil, hl, hc⟩ := h
  have q1 : ∀ (w : World) (a : Option Addr) (n c : Nat), (binOp .eql 22 (.slice a n c) (.slice none 0 0)).run Try.prog w = .ok (.bool a.isNone) w := fun w a n c => Lib.run_eql_slice_nil w _ _ _ _ _ _ _ Try.underlying22
  cases a with
  | none =>
    have hS := hnil rfl
    subst hS
    clear hc
    go_enter Try.func11, Try.ntmps11
    go_wp2
    go_ret
    exact ⟨_, rfl, ⟨⟨none, 0, rfl, fun _ => rfl, by simp, fun k hk => absurd hk (Nat.not_lt_zero _)⟩, (fun b o c e => by cases e), _, _, rfl, Nat.le_refl _⟩, Below.refl _ _, _, _, rfl⟩
  | some ad =>
    have hmk := run_make_row' (P := Try.prog) 22 9 (.string ⟨#[]⟩) 16 Try.underlying22 Try.info9 rfl .i64 .i64 S.length (by omega) (by omega)
    have q1' : (some ad : Option Addr).isNone = false := rfl
    go_enter Try.func11, Try.ntmps11
    go_wp2
    go_loopw [4] (fun i wr => ∃ k : Nat, k ≤ S.length ∧ i = .int .i64 k ∧ Filling w wr 9 S.length k (fun j => .string (S.getD j ByteArray.empty)) (.string ⟨#[]⟩)) (fun i _ => S.length - (intOf i).toNat)
    case atStart => exact ⟨0, Nat.zero_le _, rfl, filling_start _ _ _ _ _⟩
    case round =>
      obtain ⟨k, hk, rfl, hF⟩ := hrel
      clear hmk q1 q1'
      by_cases hlt : k < S.length
      · obtain ⟨hs, b, o, hadb, hcell⟩ := hc k hlt
        have hadb' := Option.some.inj hadb
        subst hadb'
        have c1 := cell_later hF.below hcell
        have c2 := hF.row.cell hlt
        rw [if_neg (Nat.lt_irrefl _)] at c2
        have f2 := hF.row.frozen k
        have HF := hF.step
        generalize S.getD k ByteArray.empty = x at c1 HF
        clear hc hcell hs h0
        go_wp2
        go_roundw
        case rel => exact ⟨k + 1, by omega, by go_num, HF⟩
        case measure => simp [intOf]; omega
      · have : k = S.length := by omega
        subst this
        go_wp2
        go_ret
        exact ⟨_, rfl, ⟨⟨_, _, rfl, (fun h => by cases h), hl, fun k hk => ⟨(hc k hk).1, _, 0, rfl, by rw [Nat.zero_add]; exact hF.cell (k := 0) hk rfl⟩⟩, (fun b o c e _ => by cases e; exact Nat.le_refl _), _, _, rfl, Nat.le_refl _⟩, hF.below, _, _, rfl⟩

set_option maxHeartbeats 800000 in
theorem cloneTab_any (v : Value) (T : List (List ByteArray)) (w : World) (h : STab w v T) (hn : T.length ≤ 1048576) (hrows : ∀ k, k < T.length → (T.getD k []).length ≤ 1048576) : Calls Try.prog 24 #[v] w fun e w' => RetSTab w T e w' := by
  obtain ⟨a, cap, rfl, hl, hc⟩ := h
  have q1 : ∀ (w : World) (a : Option Addr) (n c : Nat), (binOp .eql 43 (.slice a n c) (.slice none 0 0)).run Try.prog w = .ok (.bool a.isNone) w := fun w a n c => Lib.run_eql_slice_nil w _ _ _ _ _ _ _ Try.underlying43
  cases a with
  | none =>
    have hT : T = [] := by
      cases T with
      | nil => rfl
      | cons x l => obtain ⟨b, o, u, e, _⟩ := hc 0 (by simp); cases e
    subst hT
    clear hc
    go_enter Try.func24, Try.ntmps24
    go_wp2
    go_ret
    exact ⟨_, rfl, ⟨none, 0, rfl, by simp, fun k hk => absurd hk (Nat.not_lt_zero _)⟩, Below.refl _ _⟩
  | some ad =>
    have hmk := run_make_row' (P := Try.prog) 43 22 (.slice none 0 0) 24 Try.underlying43 Try.info22 rfl .i64 .i64 T.length (by omega) (by omega)
    have q1' : (some ad : Option Addr).isNone = false := rfl
    go_enter Try.func24, Try.ntmps24
    go_wp2
    go_loopw [4] (fun i wr => ∃ k : Nat, k ≤ T.length ∧ i = .int .i64 k ∧ CopyOuter w wr T k) (fun i _ => T.length - (intOf i).toNat)
    case atStart => exact ⟨0, Nat.zero_le _, rfl, copy_start w T⟩
    case round =>
      obtain ⟨k, hk, rfl, hO⟩ := hrel
      clear hmk q1 q1'
      by_cases hlt : k < T.length
      · obtain ⟨b, o, u, hadb, hcell, hu⟩ := hc k hlt
        have hadb' := Option.some.inj hadb
        subst hadb'
        have c1 := cell_later hO.1 hcell
        have hu2 := hu.below hO.1
        have hrl := hrows k hlt
        have HSTEP : Hid (∀ w1 v', Below wr.heap.size wr w1 → StrsIn (fun b => w.heap.size < b) w1 v' (T.getD k []) → CopyOuter w (w1.setCell ⟨w.heap.size, k, none⟩ v') T (k + 1)) := fun w1 v' h1 h2 => copy_step hO h1 h2
        have HCOL : Hid (∀ wi, Below wr.heap.size wr wi → wi.frozen? ⟨w.heap.size, k, none⟩ = false ∧ ∃ uu, wi.cell? ⟨w.heap.size, k, none⟩ = some uu) := by
          intro wi hb
          obtain ⟨_, U, hr, _⟩ := hO
          exact ⟨by rw [hb.frozen (p := ⟨w.heap.size, k, none⟩) hr.lt]; exact hr.frozen k, _, by rw [hb.cell (p := ⟨w.heap.size, k, none⟩) hr.lt]; exact hr.cell hlt⟩
        have hwlt : w.heap.size < wr.heap.size := by obtain ⟨_, U, hr, _⟩ := hO; exact hr.lt
        generalize T.getD k [] = row at *
        obtain ⟨au, cu, hue⟩ := hu2.slice
        subst hue
        have HU : Hid (Strs wr (.slice au row.length cu) row) := hu2
        clear hc hcell hu hu2 hO hrows
        go_wp2_with fail
        refine (cloneStrsIn_any _ row _ HU.out hrl).mono ?_
        rintro e w1 ⟨v', rfl, hv', hb1, av, cv, hve⟩
        have HN := HSTEP.out w1 v' hb1 ⟨hv'.1, fun b o c e h0 => Nat.lt_of_lt_of_le hwlt (hv'.2.1 b o c e h0), hv'.2.2⟩
        have hcol := HCOL.out w1 hb1
        obtain ⟨f1, uu, c2⟩ := hcol
        rw [hve] at HN ⊢
        clear hv' hb1 hve
        go_wp2
        go_roundw
        case rel => exact ⟨k + 1, by omega, by go_num, HN⟩
        case measure => simp [intOf]; omega
      · have : k = T.length := by omega
        subst this
        have HE := copy_end hO hl
        go_wp2
        go_ret
        exact ⟨_, rfl, HE, hO.1⟩

end Go.Proofs.Qxb6603051a
