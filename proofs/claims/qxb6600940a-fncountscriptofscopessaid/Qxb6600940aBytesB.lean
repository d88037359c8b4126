import Derived.Test.Qxb6600940aRows
import Derived.Test.Qxb6600940aMem
namespace Go.Proofs.Qxb6600940a
open Go.RowKit

set_option maxRecDepth 100000 in
set_option maxHeartbeats 4000000 in
theorem bytes9 (vT : Value) (T : List (List ByteArray)) (vC : Value) (C : List ByteArray) (vX : Value) (X : List ByteArray) (vD : Value) (D : List Int) (vS : Value) (S : List ByteArray) (sc : ByteArray) (st : ByteArray) (vR : Value) (R : List ByteArray) (rc : ByteArray) (rt : ByteArray) (w : World) (hT : STab w vT T) (hC : Strs w vC C) (hX : Strs w vX X) (hD : Ints w vD D) (hS : Strs w vS S) (hsc : sc.size ≤ 9223372036854775807) (hst : st.size ≤ 9223372036854775807) (hR : Strs w vR R) (hrc : rc.size ≤ 9223372036854775807) (hrt : rt.size ≤ 9223372036854775807) :
    Calls Try.prog 27 #[vT, vC, vX, vD, vS, .string sc, .string st, vR, .string rc, .string rt] w fun e w' => RetB (fun _ => True) e ∧ w' = w := by
  obtain ⟨aT, cT, rfl, hlT, hcT⟩ := hT
  obtain ⟨aC, cC, rfl, _, hlC, hcC⟩ := hC
  obtain ⟨aX, cX, rfl, _, hlX, hcX⟩ := hX
  obtain ⟨aD, cD, rfl, _, hlD, hcD⟩ := hD
  obtain ⟨aS, cS, rfl, _, hlS, hcS⟩ := hS
  obtain ⟨aR, cR, rfl, _, hlR, hcR⟩ := hR
  by_cases q0 : 1048576 < T.length
  · have q0' : (1048576 : Int) < (T.length : Int) := by omega
    go_enter Try.func27, Try.ntmps27
    go_wp2
    go_ret
    exact ⟨⟨_, rfl, trivial⟩, rfl⟩
  go_enter Try.func27, Try.ntmps27
  go_wp2
  go_loop [21, 22] (fun t i => ∃ k : Nat, ∃ z : Int, k ≤ T.length ∧ i = .int .i64 k ∧ t = .int .i64 z ∧ 0 ≤ z ∧ z ≤ 1048576) (fun _ i => T.length - (intOf i).toNat)
  case atStart => exact ⟨0, _, Nat.zero_le _, rfl, rfl, by omega, by omega⟩
  case round =>
    obtain ⟨k0, z0, hk0, rfl, rfl, hz00, hz01⟩ := hrel
    by_cases hlt0 : k0 < T.length
    · obtain ⟨b0, o0, y0, rfl, hcell0, ar0, cr0, rfl, _, hrl0, hcr0⟩ := hcT k0 hlt0
      generalize T.getD k0 [] = row0 at *
      clear hcT hcC hcX hcD hcS hcR
      by_cases u0 : 1048576 < row0.length
      · go_wp2
        go_ret
        exact ⟨⟨_, rfl, trivial⟩, rfl⟩
      by_cases t0 : 1048576 < z0 + (row0.length : Int)
      · go_wp2
        go_ret
        exact ⟨⟨_, rfl, trivial⟩, rfl⟩
      go_wp2
      go_loop [21, 23] (fun t i => ∃ k : Nat, ∃ z : Int, k ≤ row0.length ∧ i = .int .i64 k ∧ t = .int .i64 z ∧ 0 ≤ z ∧ z ≤ 1048576) (fun _ i => row0.length - (intOf i).toNat)
      case atStart => exact ⟨0, _, Nat.zero_le _, rfl, rfl, by omega, by omega⟩
      case round =>
        obtain ⟨m0, y0, hm0, rfl, rfl, hy00, hy01⟩ := hrel
        by_cases hmt0 : m0 < row0.length
        · obtain ⟨hs0, b0', o0', rfl, hcell0'⟩ := hcr0 m0 hmt0
          generalize row0.getD m0 ByteArray.empty = x0 at *
          clear hcr0
          by_cases u0' : 1048576 < x0.size
          · go_wp2
            go_ret
            exact ⟨⟨_, rfl, trivial⟩, rfl⟩
          by_cases t0' : 1048576 < y0 + (x0.size : Int)
          · go_wp2
            go_ret
            exact ⟨⟨_, rfl, trivial⟩, rfl⟩
          go_wp2
          go_round
          case rel => exact ⟨m0 + 1, _, by omega, by go_num, rfl, by omega, by omega⟩
          case measure => simp [intOf]; omega
        · clear hcr0
          go_wp2
          go_round
          case rel => exact ⟨k0 + 1, _, by omega, by go_num, rfl, by omega, by omega⟩
          case measure => simp [intOf]; omega
    · clear hcT
      by_cases q1 : 1048576 < C.length
      · have q1' : (1048576 : Int) < (C.length : Int) := by omega
        go_wp2
        go_ret
        exact ⟨⟨_, rfl, trivial⟩, rfl⟩
      by_cases p1 : 1048576 < z0 + (C.length : Int)
      · go_wp2
        go_ret
        exact ⟨⟨_, rfl, trivial⟩, rfl⟩
      go_wp2
      go_loop [21, 24] (fun t i => ∃ k : Nat, ∃ z : Int, k ≤ C.length ∧ i = .int .i64 k ∧ t = .int .i64 z ∧ 0 ≤ z ∧ z ≤ 1048576) (fun _ i => C.length - (intOf i).toNat)
      case atStart => exact ⟨0, _, Nat.zero_le _, rfl, rfl, by omega, by omega⟩
      case round =>
        obtain ⟨k1, z1, hk1, rfl, rfl, hz10, hz11⟩ := hrel
        by_cases hlt1 : k1 < C.length
        · obtain ⟨hs1, b1, o1, rfl, hcell1⟩ := hcC k1 hlt1
          generalize C.getD k1 ByteArray.empty = x1 at *
          clear hcC hcX hcD hcS hcR
          by_cases u1 : 1048576 < x1.size
          · go_wp2
            go_ret
            exact ⟨⟨_, rfl, trivial⟩, rfl⟩
          by_cases t1 : 1048576 < z1 + (x1.size : Int)
          · go_wp2
            go_ret
            exact ⟨⟨_, rfl, trivial⟩, rfl⟩
          go_wp2
          go_round
          case rel => exact ⟨k1 + 1, _, by omega, by go_num, rfl, by omega, by omega⟩
          case measure => simp [intOf]; omega
        · clear hcC
          by_cases q2 : 1048576 < X.length
          · have q2' : (1048576 : Int) < (X.length : Int) := by omega
            go_wp2
            go_ret
            exact ⟨⟨_, rfl, trivial⟩, rfl⟩
          by_cases p2 : 1048576 < z1 + (X.length : Int)
          · go_wp2
            go_ret
            exact ⟨⟨_, rfl, trivial⟩, rfl⟩
          go_wp2
          go_loop [21, 25] (fun t i => ∃ k : Nat, ∃ z : Int, k ≤ X.length ∧ i = .int .i64 k ∧ t = .int .i64 z ∧ 0 ≤ z ∧ z ≤ 1048576) (fun _ i => X.length - (intOf i).toNat)
          case atStart => exact ⟨0, _, Nat.zero_le _, rfl, rfl, by omega, by omega⟩
          case round =>
            obtain ⟨k2, z2, hk2, rfl, rfl, hz20, hz21⟩ := hrel
            by_cases hlt2 : k2 < X.length
            · obtain ⟨hs2, b2, o2, rfl, hcell2⟩ := hcX k2 hlt2
              generalize X.getD k2 ByteArray.empty = x2 at *
              clear hcX hcD hcS hcR
              by_cases u2 : 1048576 < x2.size
              · go_wp2
                go_ret
                exact ⟨⟨_, rfl, trivial⟩, rfl⟩
              by_cases t2 : 1048576 < z2 + (x2.size : Int)
              · go_wp2
                go_ret
                exact ⟨⟨_, rfl, trivial⟩, rfl⟩
              go_wp2
              go_round
              case rel => exact ⟨k2 + 1, _, by omega, by go_num, rfl, by omega, by omega⟩
              case measure => simp [intOf]; omega
            · clear hcX
              by_cases q3 : 1048576 < D.length
              · have q3' : (1048576 : Int) < (D.length : Int) := by omega
                go_wp2
                go_ret
                exact ⟨⟨_, rfl, trivial⟩, rfl⟩
              by_cases p3 : 1048576 < z2 + (D.length : Int)
              · go_wp2
                go_ret
                exact ⟨⟨_, rfl, trivial⟩, rfl⟩
              have hz3a : 0 ≤ (z2 + (D.length : Int)) := by omega
              have hz3b : (z2 + (D.length : Int)) ≤ 1048576 := by omega
              by_cases q4 : 1048576 < S.length
              · have q4' : (1048576 : Int) < (S.length : Int) := by omega
                go_wp2
                go_ret
                exact ⟨⟨_, rfl, trivial⟩, rfl⟩
              by_cases p4 : 1048576 < (z2 + (D.length : Int)) + (S.length : Int)
              · go_wp2
                go_ret
                exact ⟨⟨_, rfl, trivial⟩, rfl⟩
              go_wp2
              go_loop [21, 26] (fun t i => ∃ k : Nat, ∃ z : Int, k ≤ S.length ∧ i = .int .i64 k ∧ t = .int .i64 z ∧ 0 ≤ z ∧ z ≤ 1048576) (fun _ i => S.length - (intOf i).toNat)
              case atStart => exact ⟨0, _, Nat.zero_le _, rfl, rfl, by omega, by omega⟩
              case round =>
                obtain ⟨k4, z4, hk4, rfl, rfl, hz40, hz41⟩ := hrel
                by_cases hlt4 : k4 < S.length
                · obtain ⟨hs4, b4, o4, rfl, hcell4⟩ := hcS k4 hlt4
                  generalize S.getD k4 ByteArray.empty = x4 at *
                  clear hcD hcS hcR
                  by_cases u4 : 1048576 < x4.size
                  · go_wp2
                    go_ret
                    exact ⟨⟨_, rfl, trivial⟩, rfl⟩
                  by_cases t4 : 1048576 < z4 + (x4.size : Int)
                  · go_wp2
                    go_ret
                    exact ⟨⟨_, rfl, trivial⟩, rfl⟩
                  go_wp2
                  go_round
                  case rel => exact ⟨k4 + 1, _, by omega, by go_num, rfl, by omega, by omega⟩
                  case measure => simp [intOf]; omega
                · clear hcS
                  by_cases q5 : 1048576 < sc.size
                  · have q5' : (1048576 : Int) < (sc.size : Int) := by omega
                    go_wp2
                    go_ret
                    exact ⟨⟨_, rfl, trivial⟩, rfl⟩
                  by_cases p5 : 1048576 < z4 + (sc.size : Int)
                  · go_wp2
                    go_ret
                    exact ⟨⟨_, rfl, trivial⟩, rfl⟩
                  have hz5a : 0 ≤ (z4 + (sc.size : Int)) := by omega
                  have hz5b : (z4 + (sc.size : Int)) ≤ 1048576 := by omega
                  by_cases q6 : 1048576 < st.size
                  · have q6' : (1048576 : Int) < (st.size : Int) := by omega
                    go_wp2
                    go_ret
                    exact ⟨⟨_, rfl, trivial⟩, rfl⟩
                  by_cases p6 : 1048576 < (z4 + (sc.size : Int)) + (st.size : Int)
                  · go_wp2
                    go_ret
                    exact ⟨⟨_, rfl, trivial⟩, rfl⟩
                  have hz6a : 0 ≤ ((z4 + (sc.size : Int)) + (st.size : Int)) := by omega
                  have hz6b : ((z4 + (sc.size : Int)) + (st.size : Int)) ≤ 1048576 := by omega
                  by_cases q7 : 1048576 < R.length
                  · have q7' : (1048576 : Int) < (R.length : Int) := by omega
                    go_wp2
                    go_ret
                    exact ⟨⟨_, rfl, trivial⟩, rfl⟩
                  by_cases p7 : 1048576 < ((z4 + (sc.size : Int)) + (st.size : Int)) + (R.length : Int)
                  · go_wp2
                    go_ret
                    exact ⟨⟨_, rfl, trivial⟩, rfl⟩
                  go_wp2
                  go_loop [21, 27] (fun t i => ∃ k : Nat, ∃ z : Int, k ≤ R.length ∧ i = .int .i64 k ∧ t = .int .i64 z ∧ 0 ≤ z ∧ z ≤ 1048576) (fun _ i => R.length - (intOf i).toNat)
                  case atStart => exact ⟨0, _, Nat.zero_le _, rfl, rfl, by omega, by omega⟩
                  case round =>
                    obtain ⟨k7, z7, hk7, rfl, rfl, hz70, hz71⟩ := hrel
                    by_cases hlt7 : k7 < R.length
                    · obtain ⟨hs7, b7, o7, rfl, hcell7⟩ := hcR k7 hlt7
                      generalize R.getD k7 ByteArray.empty = x7 at *
                      clear hcD hcR
                      by_cases u7 : 1048576 < x7.size
                      · go_wp2
                        go_ret
                        exact ⟨⟨_, rfl, trivial⟩, rfl⟩
                      by_cases t7 : 1048576 < z7 + (x7.size : Int)
                      · go_wp2
                        go_ret
                        exact ⟨⟨_, rfl, trivial⟩, rfl⟩
                      go_wp2
                      go_round
                      case rel => exact ⟨k7 + 1, _, by omega, by go_num, rfl, by omega, by omega⟩
                      case measure => simp [intOf]; omega
                    · clear hcR
                      by_cases q8 : 1048576 < rc.size
                      · have q8' : (1048576 : Int) < (rc.size : Int) := by omega
                        go_wp2
                        go_ret
                        exact ⟨⟨_, rfl, trivial⟩, rfl⟩
                      by_cases p8 : 1048576 < z7 + (rc.size : Int)
                      · go_wp2
                        go_ret
                        exact ⟨⟨_, rfl, trivial⟩, rfl⟩
                      have hz8a : 0 ≤ (z7 + (rc.size : Int)) := by omega
                      have hz8b : (z7 + (rc.size : Int)) ≤ 1048576 := by omega
                      by_cases q9 : 1048576 < rt.size
                      · have q9' : (1048576 : Int) < (rt.size : Int) := by omega
                        go_wp2
                        go_ret
                        exact ⟨⟨_, rfl, trivial⟩, rfl⟩
                      by_cases p9 : 1048576 < (z7 + (rc.size : Int)) + (rt.size : Int)
                      · go_wp2
                        go_ret
                        exact ⟨⟨_, rfl, trivial⟩, rfl⟩
                      have hz9a : 0 ≤ ((z7 + (rc.size : Int)) + (rt.size : Int)) := by omega
                      have hz9b : ((z7 + (rc.size : Int)) + (rt.size : Int)) ≤ 1048576 := by omega
                      go_wp2
                      go_ret
                      exact ⟨⟨_, rfl, trivial⟩, rfl⟩

end Go.Proofs.Qxb6600940a
