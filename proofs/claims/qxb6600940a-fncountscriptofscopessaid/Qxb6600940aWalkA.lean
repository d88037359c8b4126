import Derived.Test.Qxb6600940aRows
import Derived.Test.Qxb6600940aMem
import Derived.Lib.Bytealg
namespace Go.Proofs.Qxb6600940a
open Go.RowKit

theorem toList_data (s : ByteArray) : s.toList = s.data.toList := ByteArray.toList_eq s

set_option maxHeartbeats 400000 in
theorem add_any (a b : Int) (w : World) (ha : 0 ≤ a) (hb : 0 ≤ b) : Calls Try.prog 30 #[.int .i64 a, .int .i64 b] w fun e w' => RetI (fun r => 0 ≤ r) e ∧ w' = w := by
  by_cases h1 : 1048576 < a
  · go_enter Try.func30, Try.ntmps30
    go_wp2
    go_ret
    exact ⟨⟨_, rfl, by decide⟩, rfl⟩
  · by_cases h2 : 1048576 < b
    · go_enter Try.func30, Try.ntmps30
      go_wp2
      go_ret
      exact ⟨⟨_, rfl, by decide⟩, rfl⟩
    · go_enter Try.func30, Try.ntmps30
      go_wp2
      go_ret
      exact ⟨⟨_, rfl, by omega⟩, rfl⟩

set_option maxHeartbeats 800000 in
theorem bytesOfStrings_any (v : Value) (S : List ByteArray) (w : World) (h : Strs w v S) : Calls Try.prog 31 #[v] w fun e w' => RetI (fun r => 0 ≤ r) e ∧ w' = w := by
  obtain ⟨a, cap, rfl, _, hl, hc⟩ := h
  by_cases h1 : 1048576 < S.length
  · have h1' : (1048576 : Int) < (S.length : Int) := by omega
    go_enter Try.func31, Try.ntmps31
    go_wp2
    go_ret
    exact ⟨⟨_, rfl, by decide⟩, rfl⟩
  by_cases h2 : 1048576 < 16 * (S.length : Int)
  · go_enter Try.func31, Try.ntmps31
    go_wp2
    go_ret
    exact ⟨⟨_, rfl, by decide⟩, rfl⟩
  go_enter Try.func31, Try.ntmps31
  go_wp2
  go_loop [3, 4] (fun t i => ∃ k : Nat, ∃ z : Int, k ≤ S.length ∧ i = .int .i64 k ∧ t = .int .i64 z ∧ 0 ≤ z) (fun _ i => S.length - (intOf i).toNat)
  case atStart => exact ⟨0, _, Nat.zero_le _, rfl, rfl, by omega⟩
  case round =>
    obtain ⟨k, z, hk, rfl, rfl, hz⟩ := hrel
    by_cases hlt : k < S.length
    · by_cases hzc : z ≤ 1048576
      · obtain ⟨hs, b, o, rfl, hcell⟩ := hc k hlt
        generalize S.getD k ByteArray.empty = x at *
        clear hc
        go_wp2_with ((go_at_call 30; refine (add_any _ _ _ (by omega) (by omega)).mono ?_; rintro e w' ⟨⟨r, rfl, hr⟩, rfl⟩))
        go_round
        case rel => exact ⟨k + 1, _, by omega, by go_num, rfl, hr⟩
        case measure => simp [intOf]; omega
      · go_wp2
        go_ret
        exact ⟨⟨_, rfl, hz⟩, rfl⟩
    · go_wp2
      go_ret
      exact ⟨⟨_, rfl, hz⟩, rfl⟩

set_option maxHeartbeats 800000 in
theorem bytesOfLists_any (v : Value) (T : List (List ByteArray)) (w : World) (h : STab w v T) : Calls Try.prog 33 #[v] w fun e w' => RetI (fun r => 0 ≤ r) e ∧ w' = w := by
  obtain ⟨a, cap, rfl, hl, hc⟩ := h
  by_cases h1 : 1048576 < T.length
  · have h1' : (1048576 : Int) < (T.length : Int) := by omega
    go_enter Try.func33, Try.ntmps33
    go_wp2
    go_ret
    exact ⟨⟨_, rfl, by decide⟩, rfl⟩
  by_cases h2 : 1048576 < 24 * (T.length : Int)
  · go_enter Try.func33, Try.ntmps33
    go_wp2
    go_ret
    exact ⟨⟨_, rfl, by decide⟩, rfl⟩
  go_enter Try.func33, Try.ntmps33
  go_wp2
  go_loop [3, 4] (fun t i => ∃ k : Nat, ∃ z : Int, k ≤ T.length ∧ i = .int .i64 k ∧ t = .int .i64 z ∧ 0 ≤ z) (fun _ i => T.length - (intOf i).toNat)
  case atStart => exact ⟨0, _, Nat.zero_le _, rfl, rfl, by omega⟩
  case round =>
    obtain ⟨k, z, hk, rfl, rfl, hz⟩ := hrel
    by_cases hlt : k < T.length
    · by_cases hzc : z ≤ 1048576
      · obtain ⟨b, o, u, rfl, hcell, hu⟩ := hc k hlt
        generalize T.getD k [] = row at *
        have HU : Hid (Strs w u row) := hu
        obtain ⟨au, cu, hue⟩ := hu.slice
        subst hue
        clear hc hu
        go_wp2_with (first | (go_at_call 31; refine (bytesOfStrings_any _ _ _ HU.out).mono ?_; rintro e w' ⟨⟨r1, rfl, hr1⟩, rfl⟩) | (go_at_call 30; refine (add_any _ _ _ (by omega) (by omega)).mono ?_; rintro e w' ⟨⟨r, rfl, hr⟩, rfl⟩))
        go_round
        case rel => exact ⟨k + 1, _, by omega, by go_num, rfl, hr⟩
        case measure => simp [intOf]; omega
      · go_wp2
        go_ret
        exact ⟨⟨_, rfl, hz⟩, rfl⟩
    · go_wp2
      go_ret
      exact ⟨⟨_, rfl, hz⟩, rfl⟩

set_option maxHeartbeats 800000 in
theorem countBytes_any (vT vC vX vD vS : Value) (T : List (List ByteArray)) (C X : List ByteArray) (D : List Int) (S : List ByteArray) (sc st : ByteArray) (w : World) (hT : STab w vT T) (hC : Strs w vC C) (hX : Strs w vX X) (hD : Ints w vD D) (hS : Strs w vS S) :
    Calls Try.prog 20 #[vT, vC, vX, vD, vS, .string sc, .string st] w fun e w' => RetI (fun r => 0 ≤ r) e ∧ w' = w := by
  obtain ⟨aD, cD, hDe⟩ := hD.slice
  subst hDe
  have hDl : D.length ≤ 9223372036854775807 := by obtain ⟨_, _, _, _, h, _⟩ := hD; exact h
  go_enter Try.func20, Try.ntmps20
  go_wp2_with fail
  refine (bytesOfLists_any _ T w hT).mono ?_
  rintro e w1 ⟨⟨r1, rfl, h1⟩, rfl⟩
  go_wp2_with fail
  refine (bytesOfStrings_any _ C w1 hC).mono ?_
  rintro e w2 ⟨⟨r2, rfl, h2⟩, rfl⟩
  go_wp2_with fail
  refine (add_any _ _ w2 h1 h2).mono ?_
  rintro e w3 ⟨⟨r3, rfl, h3⟩, rfl⟩
  go_wp2_with fail
  refine (bytesOfStrings_any _ X w3 hX).mono ?_
  rintro e w4 ⟨⟨r4, rfl, h4⟩, rfl⟩
  go_wp2_with fail
  refine (add_any _ _ w4 h3 h4).mono ?_
  rintro e w5 ⟨⟨r5, rfl, h5⟩, rfl⟩
  by_cases hd : 1048576 < D.length
  · have hd' : (1048576 : Int) < (D.length : Int) := by omega
    go_wp2
    go_ret
    exact ⟨⟨_, rfl, by decide⟩, rfl⟩
  go_wp2_with fail
  refine (add_any _ _ w5 h5 (by omega)).mono ?_
  rintro e w6 ⟨⟨r6, rfl, h6⟩, rfl⟩
  go_wp2_with fail
  refine (bytesOfStrings_any _ S w6 hS).mono ?_
  rintro e w7 ⟨⟨r7, rfl, h7⟩, rfl⟩
  go_wp2_with fail
  refine (add_any _ _ w7 h6 h7).mono ?_
  rintro e w8 ⟨⟨r8, rfl, h8⟩, rfl⟩
  go_wp2_with fail
  refine (add_any _ _ w8 h8 (by omega)).mono ?_
  rintro e w9 ⟨⟨r9, rfl, h9⟩, rfl⟩
  go_wp2_with fail
  refine (add_any _ _ w9 h9 (by omega)).mono ?_
  rintro e w10 ⟨⟨r10, rfl, h10⟩, rfl⟩
  go_wp2
  go_ret
  exact ⟨⟨_, rfl, h10⟩, rfl⟩

set_option maxHeartbeats 800000 in
theorem scriptBytes_any (vT vC vX vD vS vR : Value) (T : List (List ByteArray)) (C X : List ByteArray) (D : List Int) (S R : List ByteArray) (sc st rc rt : ByteArray) (w : World) (hT : STab w vT T) (hC : Strs w vC C) (hX : Strs w vX X) (hD : Ints w vD D) (hS : Strs w vS S) (hR : Strs w vR R) :
    Calls Try.prog 28 #[vT, vC, vX, vD, vS, .string sc, .string st, vR, .string rc, .string rt] w fun e w' => RetI (fun r => 0 ≤ r) e ∧ w' = w := by
  go_enter Try.func28, Try.ntmps28
  go_wp2_with fail
  refine (countBytes_any _ _ _ _ _ T C X D S sc st w hT hC hX hD hS).mono ?_
  rintro e w1 ⟨⟨r1, rfl, h1⟩, rfl⟩
  go_wp2_with fail
  refine (bytesOfStrings_any _ R w1 hR).mono ?_
  rintro e w2 ⟨⟨r2, rfl, h2⟩, rfl⟩
  go_wp2_with fail
  refine (add_any _ _ w2 h1 h2).mono ?_
  rintro e w3 ⟨⟨r3, rfl, h3⟩, rfl⟩
  go_wp2_with fail
  refine (add_any _ _ w3 h3 (by omega)).mono ?_
  rintro e w4 ⟨⟨r4, rfl, h4⟩, rfl⟩
  go_wp2_with fail
  refine (add_any _ _ w4 h4 (by omega)).mono ?_
  rintro e w5 ⟨⟨r5, rfl, h5⟩, rfl⟩
  go_wp2
  go_ret
  exact ⟨⟨_, rfl, h5⟩, rfl⟩

/-- strings.Compare. -/
theorem cmp42 (a b : ByteArray) (w : World) : (callFunc 42 #[.string a, .string b]).run Try.prog w = .ok (.value (.int .i64 (Lib.compareBytes a.data.toList b.data.toList))) w := by
  rw [run_callFunc_extern Try.func42 (by kernel_rfl) (by kernel_rfl) (by kernel_rfl) (e := Extern.BytealgCompare.compare) (by kernel_rfl), Lib.run_compareString]
  rfl

set_option maxHeartbeats 400000 in
theorem compare_any (a b : ByteArray) (w : World) : Calls Try.prog 40 #[.string a, .string b] w fun e w' => e = .returned (.int .i64 (Lib.compareBytes a.data.toList b.data.toList)) ∧ w' = w := by
  have hc := cmp42
  go_enter Try.func40, Try.ntmps40
  go_wp2
  go_ret
  exact ⟨rfl, rfl⟩

end Go.Proofs.Qxb6600940a
