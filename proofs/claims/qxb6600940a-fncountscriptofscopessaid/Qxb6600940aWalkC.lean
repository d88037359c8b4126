import Derived.Test.Qxb6600940aWalkB
namespace Go.Proofs.Qxb6600940a
open Go.RowKit

theorem beq_toList (a b : ByteArray) : (a.toList == b.toList) = decide (a = b) := by
  rw [toList_data, toList_data]
  by_cases h : a = b
  · subst h; simp
  · have : ¬ a.data = b.data := fun e => h (ByteArray.ext e)
    simp [h, this]

theorem isEmpty_toList (a : ByteArray) : a.toList.isEmpty = decide (a = ⟨#[]⟩) := by
  rw [toList_data]
  by_cases h : a = ⟨#[]⟩
  · subst h; rfl
  · have : a.data.toList ≠ [] := fun e => h (ByteArray.ext (Array.toList_eq_nil_iff.1 e))
    simp [h]
    intro e
    exact this (by rw [e])

/-- x is among S. -/
def inB (x : ByteArray) (S : List ByteArray) : Bool := S.any (fun y => decide (y = x))
theorem inB_iff {x : ByteArray} {S : List ByteArray} : inB x S = true ↔ x ∈ S := by
  unfold inB
  rw [List.any_eq_true]
  constructor
  · rintro ⟨y, hy, e⟩; rw [← of_decide_eq_true e]; exact hy
  · intro h; exact ⟨x, h, by simp⟩
theorem inB_false {x : ByteArray} {S : List ByteArray} : inB x S = false ↔ x ∉ S := by
  rw [← inB_iff]; simp

def shares (bc bt sc st : ByteArray) : Bool := !decide (st = ⟨#[]⟩) && decide (bc = sc) && decide (bt = st)
def reach (tops : List ByteArray) (bc bt : ByteArray) (S : List ByteArray) (sc st : ByteArray) : Bool := tops.any (fun t => inB t S) || shares bc bt sc st

/-- The sum of the deals of the first k bundles that are reached. -/
def sumTo (T : List (List ByteArray)) (C X : List ByteArray) (D : List Int) (S : List ByteArray) (sc st : ByteArray) : Nat → Int
  | 0 => 0
  | k + 1 => sumTo T C X D S sc st k + if reach (T.getD k []) (C.getD k ⟨#[]⟩) (X.getD k ⟨#[]⟩) S sc st then D.getD k 0 else 0

set_option maxHeartbeats 400000 in
theorem contains_any (v : Value) (S : List ByteArray) (x : ByteArray) (w : World) (h : Strs w v S) : Calls Try.prog 15 #[v, .string x] w fun e w' => e = .returned (.bool (inB x S)) ∧ w' = w := by
  obtain ⟨a, cap, rfl, _, hl, hc⟩ := h
  obtain ⟨r, hr⟩ : ∃ r, inB x S = r := ⟨_, rfl⟩
  rw [hr]
  have HR : Hid (inB x S = r) := hr
  clear hr
  go_enter Try.func15, Try.ntmps15
  go_wp2
  go_loop [5] (fun i => ∃ k : Nat, k ≤ S.length ∧ i = .int .i64 k ∧ Hid (∀ j, j < k → S.getD j ByteArray.empty ≠ x)) (fun i => S.length - (intOf i).toNat)
  case atStart => exact ⟨0, Nat.zero_le _, rfl, fun _ h => absurd h (Nat.not_lt_zero _)⟩
  case round =>
    obtain ⟨k, hk, rfl, hall⟩ := hrel
    by_cases hlt : k < S.length
    · obtain ⟨hs, b, o, rfl, hcell⟩ := hc k hlt
      have HM : Hid (S.getD k ByteArray.empty ∈ S) := by
        show S.getD k ByteArray.empty ∈ S
        rw [List.getD, List.getElem?_eq_getElem hlt]; exact List.getElem_mem hlt
      have HST : Hid (∀ j, j < k + 1 → S.getD j ByteArray.empty ≠ x ∨ S.getD j ByteArray.empty = S.getD k ByteArray.empty) := fun j hj => by
        rcases Nat.lt_succ_iff_lt_or_eq.1 hj with h | h
        · exact Or.inl (hall.out j h)
        · exact Or.inr (by rw [h])
      generalize S.getD k ByteArray.empty = y at *
      clear hc hs
      by_cases e : y = x
      · have e1 : (y.toList == x.toList) = true := by rw [beq_toList]; simp [e]
        have E : Hid (y = x) := e
        clear e
        go_wp2
        go_ret
        refine ⟨?_, rfl⟩
        have : r = true := by rw [← HR.out, inB_iff, ← E.out]; exact HM.out
        rw [this]; rfl
      · have e1 : (y.toList == x.toList) = false := by rw [beq_toList]; simp [e]
        have E : Hid (¬ y = x) := e
        clear e
        go_wp2
        go_round
        case rel =>
          refine ⟨k + 1, by omega, by go_num, fun j hj => ?_⟩
          rcases HST.out j hj with h | h
          · exact h
          · rw [h]; exact E.out
        case measure => simp [intOf]; omega
    · go_wp2
      go_ret
      refine ⟨?_, rfl⟩
      have : r = false := by
        rw [← HR.out, inB_false]
        intro hm
        obtain ⟨j, hj, e⟩ := List.mem_iff_getElem.1 hm
        exact hall.out j (by omega) (by rw [List.getD, List.getElem?_eq_getElem hj]; exact e)
      rw [this]; rfl

set_option maxHeartbeats 400000 in
theorem shares_any (bc bt sc st : ByteArray) (w : World) : Calls Try.prog 16 #[.string bc, .string bt, .string sc, .string st] w fun e w' => e = .returned (.bool (shares bc bt sc st)) ∧ w' = w := by
  obtain ⟨r, hr⟩ : ∃ r, shares bc bt sc st = r := ⟨_, rfl⟩
  rw [hr]
  have HR : Hid (shares bc bt sc st = r) := hr
  clear hr
  by_cases h1 : st = ⟨#[]⟩
  · have e1 : st.toList.isEmpty = true := by rw [isEmpty_toList]; simp [h1]
    have H1 : Hid (r = false) := by show r = false; rw [← HR.out]; simp [shares, h1]
    clear h1
    go_enter Try.func16, Try.ntmps16
    go_wp2
    go_ret
    exact ⟨by rw [H1.out]; rfl, rfl⟩
  have e1 : st.toList.isEmpty = false := by rw [isEmpty_toList]; simp [h1]
  by_cases h2 : bc = sc
  · have e2 : (bc.toList == sc.toList) = true := by rw [beq_toList]; simp [h2]
    by_cases h3 : bt = st
    · have e3 : (bt.toList == st.toList) = true := by rw [beq_toList]; simp [h3]
      have H1 : Hid (r = true) := by show r = true; rw [← HR.out]; simp [shares, h1, h2, h3]
      clear h1 h2 h3
      go_enter Try.func16, Try.ntmps16
      go_wp2
      go_ret
      exact ⟨by rw [H1.out]; rfl, rfl⟩
    · have e3 : (bt.toList == st.toList) = false := by rw [beq_toList]; simp [h3]
      have H1 : Hid (r = false) := by show r = false; rw [← HR.out]; simp [shares, h3]
      clear h1 h2 h3
      go_enter Try.func16, Try.ntmps16
      go_wp2
      go_ret
      exact ⟨by rw [H1.out]; rfl, rfl⟩
  · have e2 : (bc.toList == sc.toList) = false := by rw [beq_toList]; simp [h2]
    have H1 : Hid (r = false) := by show r = false; rw [← HR.out]; simp [shares, h2]
    clear h1 h2
    go_enter Try.func16, Try.ntmps16
    go_wp2
    go_ret
    exact ⟨by rw [H1.out]; rfl, rfl⟩

set_option maxHeartbeats 800000 in
theorem reach_any (v vS : Value) (tops S : List ByteArray) (bc bt sc st : ByteArray) (w : World) (h : Strs w v tops) (hS : Strs w vS S) :
    Calls Try.prog 34 #[v, .string bc, .string bt, vS, .string sc, .string st] w fun e w' => e = .returned (.bool (reach tops bc bt S sc st)) ∧ w' = w := by
  obtain ⟨a, cap, rfl, _, hl, hc⟩ := h
  obtain ⟨aS, cS, hSe⟩ := hS.slice
  subst hSe
  obtain ⟨r, hr⟩ : ∃ r, reach tops bc bt S sc st = r := ⟨_, rfl⟩
  rw [hr]
  have HR : Hid (reach tops bc bt S sc st = r) := hr
  have HS : Hid (Strs w (.slice aS S.length cS) S) := hS
  clear hr hS
  go_enter Try.func34, Try.ntmps34
  go_wp2
  go_loop [13] (fun i => ∃ k : Nat, k ≤ tops.length ∧ i = .int .i64 k ∧ Hid (∀ j, j < k → inB (tops.getD j ByteArray.empty) S = false)) (fun i => tops.length - (intOf i).toNat)
  case atStart => exact ⟨0, Nat.zero_le _, rfl, fun _ h => absurd h (Nat.not_lt_zero _)⟩
  case round =>
    obtain ⟨k, hk, rfl, hall⟩ := hrel
    by_cases hlt : k < tops.length
    · obtain ⟨hs, b, o, rfl, hcell⟩ := hc k hlt
      have HM : Hid (tops.getD k ByteArray.empty ∈ tops) := by
        show tops.getD k ByteArray.empty ∈ tops
        rw [List.getD, List.getElem?_eq_getElem hlt]; exact List.getElem_mem hlt
      have HST : Hid (∀ j, j < k + 1 → inB (tops.getD j ByteArray.empty) S = false ∨ tops.getD j ByteArray.empty = tops.getD k ByteArray.empty) := fun j hj => by
        rcases Nat.lt_succ_iff_lt_or_eq.1 hj with h | h
        · exact Or.inl (hall.out j h)
        · exact Or.inr (by rw [h])
      generalize tops.getD k ByteArray.empty = y at *
      clear hc hs
      go_wp2_with fail
      refine (contains_any _ S y _ HS.out).mono ?_
      rintro e w1 ⟨rfl, rfl⟩
      cases hd : inB y S with
      | true =>
        have HD : Hid (inB y S = true) := hd
        clear hd
        go_wp2
        go_ret
        refine ⟨?_, rfl⟩
        have : r = true := by
          rw [← HR.out]; unfold reach
          have : tops.any (fun t => inB t S) = true := List.any_eq_true.2 ⟨y, HM.out, HD.out⟩
          rw [this]; rfl
        rw [this]; rfl
      | false =>
        have HD : Hid (inB y S = false) := hd
        clear hd
        go_wp2
        go_round
        case rel =>
          refine ⟨k + 1, by omega, by go_num, fun j hj => ?_⟩
          rcases HST.out j hj with h | h
          · exact h
          · rw [h]; exact HD.out
        case measure => simp [intOf]; omega
    · clear hc
      go_wp2_with fail
      refine (shares_any bc bt sc st _).mono ?_
      rintro e w1 ⟨rfl, rfl⟩
      have HSH : Hid (r = shares bc bt sc st) := by
        show r = _
        rw [← HR.out]; unfold reach
        have : tops.any (fun t => inB t S) = false := by
          rw [List.any_eq_false]
          intro t ht
          obtain ⟨j, hj, e⟩ := List.mem_iff_getElem.1 ht
          have := hall.out j (by omega)
          rw [List.getD, List.getElem?_eq_getElem hj] at this
          rw [← e]; simpa using this
        rw [this]; rfl
      generalize shares bc bt sc st = q at *
      go_wp2
      go_ret
      exact ⟨by rw [HSH.out]; rfl, rfl⟩

end Go.Proofs.Qxb6600940a
