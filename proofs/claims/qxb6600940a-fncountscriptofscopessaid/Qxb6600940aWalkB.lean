import Derived.Test.Qxb6600940aWalkA
namespace Go.Proofs.Qxb6600940a
open Go.RowKit

theorem Try.info3 : (Try.prog.info? 3).map (fun i => (i.zero, i.size, i.bytes)) = some (some (.int .i64 0), 1, 8) := by kernel_rfl
theorem Try.info9 : (Try.prog.info? 9).map (fun i => (i.zero, i.size, i.bytes)) = some (some (.string ⟨#[]⟩), 1, 16) := by kernel_rfl
theorem Try.info24 : (Try.prog.info? 24).map (fun i => (i.zero, i.size, i.bytes)) = some (some (.slice none 0 0), 1, 24) := by kernel_rfl

/-- a < b, as Go has it on strings. -/
def slt (a b : ByteArray) : Bool := Op.bytesLess a.toList b.toList
/-- Strictly ascending. -/
def Asc (S : List ByteArray) : Prop := ∀ k, k + 1 < S.length → slt (S.getD k ByteArray.empty) (S.getD (k + 1) ByteArray.empty) = true

set_option maxHeartbeats 800000 in
theorem asc_any (v : Value) (S : List ByteArray) (w : World) (h : Strs w v S) : Calls Try.prog 13 #[v] w fun e w' => RetB (fun r => r = true → Asc S) e ∧ Drew w w' := by
  obtain ⟨a, cap, rfl, _, hl, hc⟩ := h
  go_enter Try.func13, Try.ntmps13
  go_wp2
  go_loopw [3] (fun i wr => ∃ m : Nat, i = .int .i64 m ∧ 1 ≤ m ∧ (m = 1 ∨ m ≤ S.length) ∧ Hid (Drew w wr ∧ ∀ j, j + 1 < m → slt (S.getD j ByteArray.empty) (S.getD (j + 1) ByteArray.empty) = true)) (fun i _ => S.length + 1 - (intOf i).toNat)
  case atStart => exact ⟨1, rfl, Nat.le_refl _, Or.inl rfl, Drew.refl _, fun j h => by omega⟩
  case round =>
    obtain ⟨m, rfl, hm1, hk, hd⟩ := hrel
    have hd0 := hd.out
    clear hd
    obtain ⟨⟨nd, rfl⟩, hall⟩ := hd0
    by_cases hlt : m < S.length
    · obtain ⟨k, hkm⟩ : ∃ k, m = k + 1 := ⟨m - 1, by omega⟩
      obtain ⟨hs1, b1, o1, hb1, hc1⟩ := hc k (by omega)
      obtain ⟨hs2, b2, o2, rfl, hc2⟩ := hc m hlt
      have hbe := Option.some.inj hb1
      injection hbe with e1 e2
      subst e1 e2
      have HST : Hid (∀ j, j + 1 < m + 1 → slt (S.getD j ByteArray.empty) (S.getD (j + 1) ByteArray.empty) = true ∨ j = k) := fun j hj => by
        by_cases h : j = k
        · exact Or.inr h
        · exact Or.inl (hall j (by omega))
      have HK : Hid (m = k + 1) := hkm
      generalize hx : S.getD k ByteArray.empty = x at *
      generalize hy : S.getD m ByteArray.empty = y at *
      have HXY : Hid (S.getD k ByteArray.empty = x ∧ S.getD m ByteArray.empty = y) := ⟨hx, hy⟩
      have hmI : (m : Int) < (S.length : Int) := by omega
      have hkI0 : (k : Int) < (S.length : Int) := by omega
      have hsub : (m : Int) - 1 = (k : Int) := by omega
      have hwr : IntKind.i64.wrap (k : Int) = (k : Int) := by rw [IntKind.wrap_i64]; omega
      clear hc hx hy hall hk hb1 hkm
      cases hxy : Op.bytesLess x.toList y.toList with
      | true =>
        go_wp2
        go_quiet (fail)
        go_wp2
        go_roundw
        case rel =>
          refine ⟨m + 1, by go_num, by omega, Or.inr (by omega), ⟨_, rfl⟩, fun j hj => ?_⟩
          rcases HST.out j hj with h | h
          · exact h
          · rw [h, HXY.out.1, ← HK.out, HXY.out.2]; exact hxy
        case measure => simp [intOf]; omega
      | false =>
        go_wp2
        go_quiet (fail)
        go_wp2
        go_ret
        exact ⟨⟨_, rfl, fun h => by cases h⟩, _, World.drewN_drewN _ _ _⟩
    · go_wp2
      go_ret
      exact ⟨⟨_, rfl, fun _ j hj => hall j (by omega)⟩, _, rfl⟩

/-- How many strings T holds. -/
def words (T : List (List ByteArray)) : Nat := (T.map List.length).sum

theorem words_take_succ (T : List (List ByteArray)) (k : Nat) (h : k < T.length) : words (T.take (k + 1)) = words (T.take k) + (T.getD k []).length := by
  unfold words
  rw [List.take_succ_eq_append_getElem h, List.map_append, List.sum_append]
  simp only [List.map_cons, List.map_nil, List.sum_cons, List.sum_nil, List.getD, List.getElem?_eq_getElem h, Option.getD_some, Nat.add_zero]

theorem words_take_le (T : List (List ByteArray)) (k : Nat) : words (T.take k) ≤ words T := by
  unfold words
  conv => rhs; rw [← List.take_append_drop k T, List.map_append, List.sum_append]
  exact Nat.le_add_right _ _

theorem row_le_words (T : List (List ByteArray)) : ∀ k, k < T.length → (T.getD k []).length ≤ words T := by
  intro k hk
  have h1 := words_take_succ T k hk
  have h2 := words_take_le T (k + 1)
  omega

/-- What CountPremise asks. -/
def Premise (T : List (List ByteArray)) (C X : List ByteArray) (D : List Int) : Prop :=
  C.length = T.length ∧ X.length = T.length ∧ D.length = T.length ∧ words T ≤ 4096 ∧ ∀ k, k < T.length → Asc (T.getD k [])

set_option maxHeartbeats 1000000 in
theorem premise_any (vT vC vX vD : Value) (T : List (List ByteArray)) (C X : List ByteArray) (D : List Int) (w : World) (hT : STab w vT T) (hC : Strs w vC C) (hX : Strs w vX X) (hD : Ints w vD D) :
    Calls Try.prog 21 #[vT, vC, vX, vD] w fun e w' => RetB (fun r => r = true → Premise T C X D) e ∧ Drew w w' := by
  obtain ⟨a, cap, rfl, hl, hc⟩ := hT
  obtain ⟨aC, cC, hCe⟩ := hC.slice
  subst hCe
  obtain ⟨aX, cX, hXe⟩ := hX.slice
  subst hXe
  obtain ⟨aD, cD, hDe⟩ := hD.slice
  subst hDe
  clear hC hX hD
  by_cases q1 : ¬ C.length = T.length
  · have q1' : ((C.length : Int) != (T.length : Int)) = true := by rw [bne_iff_ne]; omega
    go_enter Try.func21, Try.ntmps21
    go_wp2
    go_ret
    exact ⟨⟨_, rfl, fun h => by cases h⟩, Drew.refl _⟩
  have q1 := Classical.not_not.1 q1
  have q1' : ((C.length : Int) != (T.length : Int)) = false := by rw [q1]; simp
  have Q1 : Hid (C.length = T.length) := q1
  clear q1
  by_cases q2 : ¬ X.length = T.length
  · have q2' : ((X.length : Int) != (T.length : Int)) = true := by rw [bne_iff_ne]; omega
    go_enter Try.func21, Try.ntmps21
    go_wp2
    go_ret
    exact ⟨⟨_, rfl, fun h => by cases h⟩, Drew.refl _⟩
  have q2 := Classical.not_not.1 q2
  have q2' : ((X.length : Int) != (T.length : Int)) = false := by rw [q2]; simp
  have Q2 : Hid (X.length = T.length) := q2
  clear q2
  by_cases q3 : ¬ D.length = T.length
  · have q3' : ((D.length : Int) != (T.length : Int)) = true := by rw [bne_iff_ne]; omega
    go_enter Try.func21, Try.ntmps21
    go_wp2
    go_ret
    exact ⟨⟨_, rfl, fun h => by cases h⟩, Drew.refl _⟩
  have q3 := Classical.not_not.1 q3
  have q3' : ((D.length : Int) != (T.length : Int)) = false := by rw [q3]; simp
  have Q3 : Hid (D.length = T.length) := q3
  clear q3
  go_enter Try.func21, Try.ntmps21
  go_wp2
  go_loopw [10, 11] (fun t i wr => ∃ k : Nat, k ≤ T.length ∧ i = .int .i64 k ∧ t = .int .i64 (words (T.take k) : Nat) ∧ words (T.take k) ≤ 4096 ∧ Hid (Drew w wr ∧ ∀ j, j < k → Asc (T.getD j []))) (fun _ i _ => T.length - (intOf i).toNat)
  case atStart => exact ⟨0, Nat.zero_le _, rfl, rfl, by simp [words], Drew.refl _, fun _ h => absurd h (Nat.not_lt_zero _)⟩
  case round =>
    obtain ⟨k, hk, rfl, rfl, hb, hd⟩ := hrel
    have hd0 := hd.out
    clear hd
    obtain ⟨hdr, hall⟩ := hd0
    have HDR : Hid (Drew w wr) := hdr
    by_cases hlt : k < T.length
    · obtain ⟨b, o, u, rfl, hcell, hu⟩ := hc k hlt
      have hcell2 := cell_later (hdr.below w.heap.size) hcell
      have hu2 := hu.below (hdr.below w.heap.size)
      have hw := words_take_succ T k hlt
      have HST : Hid (∀ j, j < k + 1 → Asc (T.getD j []) ∨ j = k) := fun j hj => by
        rcases Nat.lt_succ_iff_lt_or_eq.1 hj with h | h
        · exact Or.inl (hall j h)
        · exact Or.inr h
      generalize hrow : T.getD k [] = row at *
      have HROW : Hid (T.getD k [] = row) := hrow
      generalize hp : words (T.take k) = p at *
      have HW : Hid (words (T.take (k + 1)) = p + row.length) := hw
      obtain ⟨au, cu, hue⟩ := hu2.slice
      subst hue
      have HU : Hid (Strs wr (.slice au row.length cu) row) := hu2
      clear hc hcell hu hu2 hw hrow hp hall hdr
      by_cases hq1 : 4096 < row.length
      · go_wp2
        go_ret
        exact ⟨⟨_, rfl, fun h => by cases h⟩, HDR.out⟩
      by_cases hq2 : 4096 < (p : Int) + (row.length : Int)
      · go_wp2
        go_ret
        exact ⟨⟨_, rfl, fun h => by cases h⟩, HDR.out⟩
      go_wp2_with fail
      refine (asc_any _ row _ HU.out).mono ?_
      rintro e w1 ⟨⟨r, rfl, hr⟩, hd1⟩
      have HD1 : Hid (Drew w w1) := HDR.out.trans hd1
      have HR : Hid (r = true → Asc row) := hr
      clear hr hd1
      cases r with
      | false =>
        go_wp2
        go_ret
        exact ⟨⟨_, rfl, fun h => by cases h⟩, HD1.out⟩
      | true =>
        have HR2 : Hid (Asc row) := HR.out rfl
        clear HR
        go_wp2
        go_roundw
        case rel =>
          refine ⟨k + 1, by omega, by go_num, by rw [HW.out]; go_num, by rw [HW.out]; omega, HD1.out, fun j hj => ?_⟩
          rcases HST.out j hj with h | h
          · exact h
          · rw [h, HROW.out]; exact HR2.out
        case measure => simp [intOf]; omega
    · go_wp2
      go_ret
      exact ⟨⟨_, rfl, fun _ => ⟨Q1.out, Q2.out, Q3.out, by rw [List.take_of_length_le (by omega)] at hb; exact hb, fun j hj => hall j (by omega)⟩⟩, HDR.out⟩

def RetInts (w : World) (S : List Int) (e : Ending) (w' : World) : Prop := ∃ v', e = .returned v' ∧ Ints w' v' S ∧ Below w.heap.size w w'
/-- .. the length within the capacity. -/
def StrsC (w : World) (v : Value) (xs : List ByteArray) : Prop := Strs w v xs ∧ ∃ a cap, v = .slice a xs.length cap ∧ xs.length ≤ cap
def STabC (w : World) (v : Value) (T : List (List ByteArray)) : Prop :=
  ∃ a cap, v = .slice a T.length cap ∧ T.length ≤ 9223372036854775807 ∧ (∀ k, k < T.length → ∃ b o u, a = some ⟨b, o, none⟩ ∧ w.cell? ⟨b, o + k, none⟩ = some u ∧ StrsC w u (T.getD k []))
theorem STabC.tab {w : World} {v : Value} {T : List (List ByteArray)} (h : STabC w v T) : STab w v T := by
  obtain ⟨a, cap, h1, h2, h3⟩ := h
  exact ⟨a, cap, h1, h2, fun k hk => by obtain ⟨b, o, u, e, c, hs, _⟩ := h3 k hk; exact ⟨b, o, u, e, c, hs⟩⟩
theorem StrsC.below {w w' : World} {v : Value} {xs : List ByteArray} (h : StrsC w v xs) (hb : Below w.heap.size w w') : StrsC w' v xs := ⟨h.1.below hb, h.2⟩
theorem STabC.below {w w' : World} {v : Value} {T : List (List ByteArray)} (h : STabC w v T) (hb : Below w.heap.size w w') : STabC w' v T := by
  obtain ⟨a, cap, rfl, hl, hc⟩ := h
  refine ⟨a, cap, rfl, hl, fun k hk => ?_⟩
  obtain ⟨b, o, u, rfl, hcell, hu⟩ := hc k hk
  exact ⟨b, o, u, rfl, cell_later hb hcell, hu.below hb⟩
def RetSTab (w : World) (T : List (List ByteArray)) (e : Ending) (w' : World) : Prop := ∃ v', e = .returned v' ∧ STabC w' v' T ∧ Below w.heap.size w w'

/-- A row of n cells, being filled by f. -/
structure Filling (w wr : World) (t : TypeId) (n k : Nat) (f : Nat → Value) (z : Value) : Prop where
  below : Below w.heap.size w wr
  row : wr.rowIs w.heap.size t n (fun i => if i < k then f i else z)

theorem filling_start (w : World) (t : TypeId) (n : Nat) (f : Nat → Value) (z : Value) : Filling w (w.alloc (.cells (madeCells #[z] n) t)) t n 0 f z :=
  ⟨(Below.refl _ _).alloc (Nat.le_refl _) _, (World.rowIs_made w z n t).congr (fun j _ => by simp)⟩

theorem Filling.step {w wr : World} {t : TypeId} {n k : Nat} {f : Nat → Value} {z : Value} (h : Filling w wr t n k f z) : Filling w (wr.setCell ⟨w.heap.size, k, none⟩ (f k)) t n (k + 1) f z :=
  ⟨h.below.setCell (Nat.le_refl _) _, (h.row.set k _).congr (fun i _ => by
    by_cases e : i = k
    · subst e; simp
    · rw [if_neg e]
      by_cases hlt : i < k
      · rw [if_pos hlt, if_pos (by omega)]
      · rw [if_neg hlt, if_neg (by omega)])⟩

theorem Filling.cell {w wr : World} {t : TypeId} {n k i : Nat} {f : Nat → Value} {z : Value} (h : Filling w wr t n n f z) (hi : i < n) (_ : k = k) : wr.cell? ⟨w.heap.size, i, none⟩ = some (f i) := by
  rw [h.row.cell hi, if_pos hi]

set_option maxHeartbeats 800000 in
theorem cloneInts_any (v : Value) (S : List Int) (w : World) (h : Ints w v S) (hn : S.length ≤ 1048576) : Calls Try.prog 23 #[v] w fun e w' => RetInts w S e w' := by
  obtain ⟨a, cap, rfl, hnil, hl, hc⟩ := h
  have q1 : ∀ (w : World) (a : Option Addr) (n c : Nat), (binOp .eql 32 (.slice a n c) (.slice none 0 0)).run Try.prog w = .ok (.bool a.isNone) w := fun w a n c => Lib.run_eql_slice_nil w _ _ _ _ _ _ _ Try.underlying32
  cases a with
  | none =>
    have hS := hnil rfl
    subst hS
    clear hc
    go_enter Try.func23, Try.ntmps23
    go_wp2
    go_ret
    exact ⟨_, rfl, ⟨none, 0, rfl, fun _ => rfl, by simp, fun k hk => absurd hk (Nat.not_lt_zero _)⟩, Below.refl _ _⟩
  | some ad =>
    have hmk := run_make_row' (P := Try.prog) 32 3 (.int .i64 0) 8 Try.underlying32 Try.info3 rfl .i64 .i64 S.length (by omega) (by omega)
    have q1' : (some ad : Option Addr).isNone = false := rfl
    go_enter Try.func23, Try.ntmps23
    go_wp2
    go_loopw [4] (fun i wr => ∃ k : Nat, k ≤ S.length ∧ i = .int .i64 k ∧ Filling w wr 3 S.length k (fun j => .int .i64 (S.getD j 0)) (.int .i64 0)) (fun i _ => S.length - (intOf i).toNat)
    case atStart => exact ⟨0, Nat.zero_le _, rfl, filling_start _ _ _ _ _⟩
    case round =>
      obtain ⟨k, hk, rfl, hF⟩ := hrel
      clear hmk q1 q1'
      by_cases hlt : k < S.length
      · obtain ⟨b, o, hadb, hcell⟩ := hc k hlt
        have hadb' := Option.some.inj hadb
        subst hadb'
        have c1 := cell_later hF.below hcell
        have c2 := hF.row.cell hlt
        rw [if_neg (Nat.lt_irrefl _)] at c2
        have f2 := hF.row.frozen k
        have HF := hF.step
        generalize S.getD k 0 = x at c1 HF
        clear hc hcell
        go_wp2
        go_roundw
        case rel => exact ⟨k + 1, by omega, by go_num, HF⟩
        case measure => simp [intOf]; omega
      · have : k = S.length := by omega
        subst this
        go_wp2
        go_ret
        exact ⟨_, rfl, ⟨_, _, rfl, (fun h => by cases h), hl, fun k hk => ⟨_, 0, rfl, by rw [Nat.zero_add]; exact hF.cell (k := 0) hk rfl⟩⟩, hF.below⟩

/-- Strs, all cells in blocks that P lets; the length is within the capacity. -/
def StrsIn (P : Nat → Prop) (w : World) (v : Value) (xs : List ByteArray) : Prop :=
  Strs w v xs ∧ (∀ b o c, v = .slice (some ⟨b, o, none⟩) xs.length c → 0 < xs.length → P b) ∧ ∃ a cap, v = .slice a xs.length cap ∧ xs.length ≤ cap

theorem StrsIn.keep {P : Nat → Prop} {w w' : World} {v : Value} {xs : List ByteArray} (h : StrsIn P w v xs) (hk : ∀ b, b < w.heap.size → P b → w'.heap[b]? = w.heap[b]?) : StrsIn P w' v xs := by
  obtain ⟨⟨a, cap, rfl, hn, hl, hc⟩, hp, hcap⟩ := h
  refine ⟨⟨a, cap, rfl, hn, hl, fun k hk' => ?_⟩, hp, hcap⟩
  obtain ⟨hs, b, o, rfl, hcell⟩ := hc k hk'
  refine ⟨hs, b, o, rfl, (World.cell?_of_block (w := w) (a := ⟨b, o + k, none⟩) (hk b (World.block_lt_of_cell? _ _ hcell) (hp b o cap rfl (by omega)))).trans hcell⟩

/-- The copy at the head of round k. -/
def CopyOuter (w wr : World) (T : List (List ByteArray)) (k : Nat) : Prop :=
  Below w.heap.size w wr ∧ ∃ U : Nat → Value, wr.rowIs w.heap.size 24 T.length (fun i => if i < k then U i else .slice none 0 0) ∧ ∀ i, i < k → StrsIn (fun b => w.heap.size < b) wr (U i) (T.getD i [])

theorem copy_start (w : World) (T : List (List ByteArray)) : CopyOuter w (w.alloc (.cells (madeCells #[.slice none 0 0] T.length) 24)) T 0 :=
  ⟨(Below.refl _ _).alloc (Nat.le_refl _) _, fun _ => .slice none 0 0, (World.rowIs_made w _ T.length 24).congr (fun j _ => by simp), fun i hi => absurd hi (Nat.not_lt_zero _)⟩

theorem copy_step {w wr w1 : World} {T : List (List ByteArray)} {k : Nat} {v' : Value} (h : CopyOuter w wr T k) (hb : Below wr.heap.size wr w1) (hv : StrsIn (fun b => w.heap.size < b) w1 v' (T.getD k [])) : CopyOuter w (w1.setCell ⟨w.heap.size, k, none⟩ v') T (k + 1) := by
  obtain ⟨hb0, U, hr, hu⟩ := h
  have hlt : w.heap.size < wr.heap.size := hr.lt
  have hblk : ∀ b, b ≠ w.heap.size → (w1.setCell ⟨w.heap.size, k, none⟩ v').heap[b]? = w1.heap[b]? := fun b hne => Below.heap_setCell _ _ _ _ hne
  refine ⟨(hb0.trans (hb.mono (by omega))).setCell (Nat.le_refl _) _, fun i => if i < k then U i else v', ?_, fun i hi => ?_⟩
  · refine ((hr.of_block (hb.block _ hlt)).set k _).congr (fun i _ => ?_)
    by_cases e : i = k
    · subst e; simp
    · rw [if_neg e]
      by_cases hik : i < k
      · simp [hik, Nat.lt_succ_of_lt hik]
      · rw [if_neg hik, if_neg (by omega)]
  · by_cases e : i < k
    · simp only [e, if_true]
      exact ((hu i e).keep fun b hbl _ => hb.block b hbl).keep fun b _ hp => hblk b (by omega)
    · have : i = k := by omega
      subst this
      simp only [e, if_false]
      exact hv.keep fun b _ hp => hblk b (by omega)

theorem copy_end {w wr : World} {T : List (List ByteArray)} (h : CopyOuter w wr T T.length) (hl : T.length ≤ 9223372036854775807) : STabC wr (.slice (some ⟨w.heap.size, 0, none⟩) T.length T.length) T := by
  obtain ⟨hb, U, hrow, hu⟩ := h
  refine ⟨_, _, rfl, hl, fun k hk => ⟨w.heap.size, 0, U k, rfl, ?_, (hu k hk).1, (hu k hk).2.2⟩⟩
  rw [Nat.zero_add, hrow.cell hk, if_pos hk]

/-- The clone of a row lies in new memory. -/
def RetStrsIn (w : World) (S : List ByteArray) (e : Ending) (w' : World) : Prop := ∃ v', e = .returned v' ∧ StrsIn (fun b => w.heap.size ≤ b) w' v' S ∧ Below w.heap.size w w' ∧ ∃ a c, v' = .slice a S.length c

set_option maxHeartbeats 800000 in
theorem cloneStrsIn_any (v : Value) (S : List ByteArray) (w : World) (h : Strs w v S) (hn : S.length ≤ 1048576) : Calls Try.prog 14 #[v] w fun e w' => RetStrsIn w S e w' := by
  have h0 := h
  obtain ⟨a, cap, rfl, hnil, hl, hc⟩ := h
  have q1 : ∀ (w : World) (a : Option Addr) (n c : Nat), (binOp .eql 24 (.slice a n c) (.slice none 0 0)).run Try.prog w = .ok (.bool a.isNone) w := fun w a n c => Lib.run_eql_slice_nil w _ _ _ _ _ _ _ Try.underlying24
  cases a with
  | none =>
    have hS := hnil rfl
    subst hS
    clear hc
    go_enter Try.func14, Try.ntmps14
    go_wp2
    go_ret
    exact ⟨_, rfl, ⟨⟨none, 0, rfl, fun _ => rfl, by simp, fun k hk => absurd hk (Nat.not_lt_zero _)⟩, (fun b o c e => by cases e), _, _, rfl, Nat.le_refl _⟩, Below.refl _ _, _, _, rfl⟩
  | some ad =>
    have hmk := run_make_row' (P := Try.prog) 24 9 (.string ⟨#[]⟩) 16 Try.underlying24 Try.info9 rfl .i64 .i64 S.length (by omega) (by omega)
    have q1' : (some ad : Option Addr).isNone = false := rfl
    go_enter Try.func14, Try.ntmps14
    go_wp2
    go_loopw [4] (fun i wr => ∃ k : Nat, k ≤ S.length ∧ i = .int .i64 k ∧ Filling w wr 9 S.length k (fun j => .string (S.getD j ByteArray.empty)) (.string ⟨#[]⟩)) (fun i _ => S.length - (intOf i).toNat)
    case atStart => exact ⟨0, Nat.zero_le _, rfl, filling_start _ _ _ _ _⟩
    case round =>
      obtain ⟨k, hk, rfl, hF⟩ := hrel
      clear hmk q1 q1'
      by_cases hlt : k < S.length
      · obtain ⟨hs, b, o, hadb, hcell⟩ := hc k hlt
        have hadb' := Option.some.inj hadb
        subst hadb'
        have c1 := cell_later hF.below hcell
        have c2 := hF.row.cell hlt
        rw [if_neg (Nat.lt_irrefl _)] at c2
        have f2 := hF.row.frozen k
        have HF := hF.step
        generalize S.getD k ByteArray.empty = x at c1 HF
        clear hc hcell hs h0
        go_wp2
        go_roundw
        case rel => exact ⟨k + 1, by omega, by go_num, HF⟩
        case measure => simp [intOf]; omega
      · have : k = S.length := by omega
        subst this
        go_wp2
        go_ret
        exact ⟨_, rfl, ⟨⟨_, _, rfl, (fun h => by cases h), hl, fun k hk => ⟨(hc k hk).1, _, 0, rfl, by rw [Nat.zero_add]; exact hF.cell (k := 0) hk rfl⟩⟩, (fun b o c e _ => by cases e; exact Nat.le_refl _), _, _, rfl, Nat.le_refl _⟩, hF.below, _, _, rfl⟩

set_option maxHeartbeats 800000 in
theorem cloneTab_any (v : Value) (T : List (List ByteArray)) (w : World) (h : STab w v T) (hn : T.length ≤ 1048576) (hrows : ∀ k, k < T.length → (T.getD k []).length ≤ 1048576) : Calls Try.prog 22 #[v] w fun e w' => RetSTab w T e w' := by
  obtain ⟨a, cap, rfl, hl, hc⟩ := h
  have q1 : ∀ (w : World) (a : Option Addr) (n c : Nat), (binOp .eql 31 (.slice a n c) (.slice none 0 0)).run Try.prog w = .ok (.bool a.isNone) w := fun w a n c => Lib.run_eql_slice_nil w _ _ _ _ _ _ _ Try.underlying31
  cases a with
  | none =>
    have hT : T = [] := by
      cases T with
      | nil => rfl
      | cons x l => obtain ⟨b, o, u, e, _⟩ := hc 0 (by simp); cases e
    subst hT
    clear hc
    go_enter Try.func22, Try.ntmps22
    go_wp2
    go_ret
    exact ⟨_, rfl, ⟨none, 0, rfl, by simp, fun k hk => absurd hk (Nat.not_lt_zero _)⟩, Below.refl _ _⟩
  | some ad =>
    have hmk := run_make_row' (P := Try.prog) 31 24 (.slice none 0 0) 24 Try.underlying31 Try.info24 rfl .i64 .i64 T.length (by omega) (by omega)
    have q1' : (some ad : Option Addr).isNone = false := rfl
    go_enter Try.func22, Try.ntmps22
    go_wp2
    go_loopw [4] (fun i wr => ∃ k : Nat, k ≤ T.length ∧ i = .int .i64 k ∧ CopyOuter w wr T k) (fun i _ => T.length - (intOf i).toNat)
    case atStart => exact ⟨0, Nat.zero_le _, rfl, copy_start w T⟩
    case round =>
      obtain ⟨k, hk, rfl, hO⟩ := hrel
      clear hmk q1 q1'
      by_cases hlt : k < T.length
      · obtain ⟨b, o, u, hadb, hcell, hu⟩ := hc k hlt
        have hadb' := Option.some.inj hadb
        subst hadb'
        have c1 := cell_later hO.1 hcell
        have hu2 := hu.below hO.1
        have hrl := hrows k hlt
        have HSTEP : Hid (∀ w1 v', Below wr.heap.size wr w1 → StrsIn (fun b => w.heap.size < b) w1 v' (T.getD k []) → CopyOuter w (w1.setCell ⟨w.heap.size, k, none⟩ v') T (k + 1)) := fun w1 v' h1 h2 => copy_step hO h1 h2
        have HCOL : Hid (∀ wi, Below wr.heap.size wr wi → wi.frozen? ⟨w.heap.size, k, none⟩ = false ∧ ∃ uu, wi.cell? ⟨w.heap.size, k, none⟩ = some uu) := by
          intro wi hb
          obtain ⟨_, U, hr, _⟩ := hO
          exact ⟨by rw [hb.frozen (p := ⟨w.heap.size, k, none⟩) hr.lt]; exact hr.frozen k, _, by rw [hb.cell (p := ⟨w.heap.size, k, none⟩) hr.lt]; exact hr.cell hlt⟩
        have hwlt : w.heap.size < wr.heap.size := by obtain ⟨_, U, hr, _⟩ := hO; exact hr.lt
        generalize T.getD k [] = row at *
        obtain ⟨au, cu, hue⟩ := hu2.slice
        subst hue
        have HU : Hid (Strs wr (.slice au row.length cu) row) := hu2
        clear hc hcell hu hu2 hO hrows
        go_wp2_with fail
        refine (cloneStrsIn_any _ row _ HU.out hrl).mono ?_
        rintro e w1 ⟨v', rfl, hv', hb1, av, cv, hve⟩
        have HN := HSTEP.out w1 v' hb1 ⟨hv'.1, fun b o c e h0 => Nat.lt_of_lt_of_le hwlt (hv'.2.1 b o c e h0), hv'.2.2⟩
        have hcol := HCOL.out w1 hb1
        obtain ⟨f1, uu, c2⟩ := hcol
        rw [hve] at HN ⊢
        clear hv' hb1 hve
        go_wp2
        go_roundw
        case rel => exact ⟨k + 1, by omega, by go_num, HN⟩
        case measure => simp [intOf]; omega
      · have : k = T.length := by omega
        subst this
        have HE := copy_end hO hl
        go_wp2
        go_ret
        exact ⟨_, rfl, HE, hO.1⟩

end Go.Proofs.Qxb6600940a
