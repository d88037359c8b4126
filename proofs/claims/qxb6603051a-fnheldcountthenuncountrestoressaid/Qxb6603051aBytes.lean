/-
  DERIVED. The law's own bound on lengths: it returns, and turns nothing. (Typed by a program of mine.)
-/
import Derived.Test.Qxb6603051aRows
import Derived.Test.Qxb6603051aMem
namespace Go.Proofs.Qxb6603051a
open Go.RowKit

set_option maxRecDepth 100000 in
set_option maxHeartbeats 4000000 in
theorem bytes36 (vA : Value) (A : List ByteArray) (vR : Value) (R : List Int) (vL : Value) (L : List Int) (vK : Value) (K : List (List ByteArray)) (vN : Value) (N : List (List Int)) (vE : Value) (E : List ByteArray) (vP : Value) (P : List (List ByteArray)) (by1 : Int) (w : World) (hA : Strs w vA A) (hR : Ints w vR R) (hL : Ints w vL L) (hK : STab w vK K) (hN : ITab w vN N) (hE : Strs w vE E) (hP : STab w vP P) :
    Calls Try.prog 36 #[vA, vR, vL, vK, vN, vE, vP, .int .i64 by1] w fun e w' => RetB (fun _ => True) e ∧ w' = w := by
  obtain ⟨aA, cA, rfl, _, hlA, hcA⟩ := hA
  obtain ⟨aR, cR, rfl, _, hlR, hcR⟩ := hR
  obtain ⟨aL, cL, rfl, _, hlL, hcL⟩ := hL
  obtain ⟨aK, cK, rfl, hlK, hcK⟩ := hK
  obtain ⟨aN, cN, rfl, hlN, hcN⟩ := hN
  obtain ⟨aE, cE, rfl, _, hlE, hcE⟩ := hE
  obtain ⟨aP, cP, rfl, hlP, hcP⟩ := hP
  by_cases q0 : 1048576 < A.length
  · have q0' : (1048576 : Int) < (A.length : Int) := by omega
    go_enter Try.func36, Try.ntmps36
    go_wp2
    go_ret
    exact ⟨⟨_, rfl, trivial⟩, rfl⟩
  go_enter Try.func36, Try.ntmps36
  go_wp2
  go_loop [17, 18] (fun t i => ∃ k : Nat, ∃ z : Int, k ≤ A.length ∧ i = .int .i64 k ∧ t = .int .i64 z ∧ 0 ≤ z ∧ z ≤ 1048576) (fun _ i => A.length - (intOf i).toNat)
  case atStart => exact ⟨0, _, Nat.zero_le _, rfl, rfl, by omega, by omega⟩
  case round =>
    obtain ⟨k0, z0, hk0, rfl, rfl, hz00, hz01⟩ := hrel
    by_cases hlt0 : k0 < A.length
    · obtain ⟨hs0, b0, o0, rfl, hcell0⟩ := hcA k0 hlt0
      generalize A.getD k0 ByteArray.empty = x0 at *
      clear hcA hcR hcL hcK hcN hcE hcP
      by_cases u0 : 1048576 < x0.size
      · go_wp2
        go_ret
        exact ⟨⟨_, rfl, trivial⟩, rfl⟩
      by_cases t0 : 1048576 < z0 + (x0.size : Int)
      · go_wp2
        go_ret
        exact ⟨⟨_, rfl, trivial⟩, rfl⟩
      go_wp2
      go_round
      case rel => exact ⟨k0 + 1, _, by omega, by go_num, rfl, by omega, by omega⟩
      case measure => simp [intOf]; omega
    · clear hcA
      by_cases q1 : 1048576 < R.length
      · have q1' : (1048576 : Int) < (R.length : Int) := by omega
        go_wp2
        go_ret
        exact ⟨⟨_, rfl, trivial⟩, rfl⟩
      by_cases p1 : 1048576 < z0 + (R.length : Int)
      · go_wp2
        go_ret
        exact ⟨⟨_, rfl, trivial⟩, rfl⟩
      have hz1a : 0 ≤ (z0 + (R.length : Int)) := by omega
      have hz1b : (z0 + (R.length : Int)) ≤ 1048576 := by omega
      by_cases q2 : 1048576 < L.length
      · have q2' : (1048576 : Int) < (L.length : Int) := by omega
        go_wp2
        go_ret
        exact ⟨⟨_, rfl, trivial⟩, rfl⟩
      by_cases p2 : 1048576 < (z0 + (R.length : Int)) + (L.length : Int)
      · go_wp2
        go_ret
        exact ⟨⟨_, rfl, trivial⟩, rfl⟩
      have hz2a : 0 ≤ ((z0 + (R.length : Int)) + (L.length : Int)) := by omega
      have hz2b : ((z0 + (R.length : Int)) + (L.length : Int)) ≤ 1048576 := by omega
      by_cases q3 : 1048576 < K.length
      · have q3' : (1048576 : Int) < (K.length : Int) := by omega
        go_wp2
        go_ret
        exact ⟨⟨_, rfl, trivial⟩, rfl⟩
      by_cases p3 : 1048576 < ((z0 + (R.length : Int)) + (L.length : Int)) + (K.length : Int)
      · go_wp2
        go_ret
        exact ⟨⟨_, rfl, trivial⟩, rfl⟩
      go_wp2
      go_loop [17, 19] (fun t i => ∃ k : Nat, ∃ z : Int, k ≤ K.length ∧ i = .int .i64 k ∧ t = .int .i64 z ∧ 0 ≤ z ∧ z ≤ 1048576) (fun _ i => K.length - (intOf i).toNat)
      case atStart => exact ⟨0, _, Nat.zero_le _, rfl, rfl, by omega, by omega⟩
      case round =>
        obtain ⟨k3, z3, hk3, rfl, rfl, hz30, hz31⟩ := hrel
        by_cases hlt3 : k3 < K.length
        · obtain ⟨b3, o3, y3, rfl, hcell3, ar3, cr3, rfl, _, hrl3, hcr3⟩ := hcK k3 hlt3
          generalize K.getD k3 [] = row3 at *
          clear hcR hcL hcK hcN hcE hcP
          by_cases u3 : 1048576 < row3.length
          · go_wp2
            go_ret
            exact ⟨⟨_, rfl, trivial⟩, rfl⟩
          by_cases t3 : 1048576 < z3 + (row3.length : Int)
          · go_wp2
            go_ret
            exact ⟨⟨_, rfl, trivial⟩, rfl⟩
          go_wp2
          go_loop [17, 20] (fun t i => ∃ k : Nat, ∃ z : Int, k ≤ row3.length ∧ i = .int .i64 k ∧ t = .int .i64 z ∧ 0 ≤ z ∧ z ≤ 1048576) (fun _ i => row3.length - (intOf i).toNat)
          case atStart => exact ⟨0, _, Nat.zero_le _, rfl, rfl, by omega, by omega⟩
          case round =>
            obtain ⟨m3, y3, hm3, rfl, rfl, hy30, hy31⟩ := hrel
            by_cases hmt3 : m3 < row3.length
            · obtain ⟨hs3, b3', o3', rfl, hcell3'⟩ := hcr3 m3 hmt3
              generalize row3.getD m3 ByteArray.empty = x3 at *
              clear hcr3
              by_cases u3' : 1048576 < x3.size
              · go_wp2
                go_ret
                exact ⟨⟨_, rfl, trivial⟩, rfl⟩
              by_cases t3' : 1048576 < y3 + (x3.size : Int)
              · go_wp2
                go_ret
                exact ⟨⟨_, rfl, trivial⟩, rfl⟩
              go_wp2
              go_round
              case rel => exact ⟨m3 + 1, _, by omega, by go_num, rfl, by omega, by omega⟩
              case measure => simp [intOf]; omega
            · clear hcr3
              go_wp2
              go_round
              case rel => exact ⟨k3 + 1, _, by omega, by go_num, rfl, by omega, by omega⟩
              case measure => simp [intOf]; omega
        · clear hcK
          by_cases q4 : 1048576 < N.length
          · have q4' : (1048576 : Int) < (N.length : Int) := by omega
            go_wp2
            go_ret
            exact ⟨⟨_, rfl, trivial⟩, rfl⟩
          by_cases p4 : 1048576 < z3 + (N.length : Int)
          · go_wp2
            go_ret
            exact ⟨⟨_, rfl, trivial⟩, rfl⟩
          go_wp2
          go_loop [17, 21] (fun t i => ∃ k : Nat, ∃ z : Int, k ≤ N.length ∧ i = .int .i64 k ∧ t = .int .i64 z ∧ 0 ≤ z ∧ z ≤ 1048576) (fun _ i => N.length - (intOf i).toNat)
          case atStart => exact ⟨0, _, Nat.zero_le _, rfl, rfl, by omega, by omega⟩
          case round =>
            obtain ⟨k4, z4, hk4, rfl, rfl, hz40, hz41⟩ := hrel
            by_cases hlt4 : k4 < N.length
            · obtain ⟨b4, o4, y4, rfl, hcell4, ar4, cr4, rfl, _, hrl4, hcr4⟩ := hcN k4 hlt4
              generalize N.getD k4 [] = row4 at *
              clear hcr4 hcR hcL hcN hcE hcP
              by_cases u4 : 1048576 < row4.length
              · go_wp2
                go_ret
                exact ⟨⟨_, rfl, trivial⟩, rfl⟩
              by_cases t4 : 1048576 < z4 + (row4.length : Int)
              · go_wp2
                go_ret
                exact ⟨⟨_, rfl, trivial⟩, rfl⟩
              go_wp2
              go_round
              case rel => exact ⟨k4 + 1, _, by omega, by go_num, rfl, by omega, by omega⟩
              case measure => simp [intOf]; omega
            · clear hcN
              by_cases q5 : 1048576 < E.length
              · have q5' : (1048576 : Int) < (E.length : Int) := by omega
                go_wp2
                go_ret
                exact ⟨⟨_, rfl, trivial⟩, rfl⟩
              by_cases p5 : 1048576 < z4 + (E.length : Int)
              · go_wp2
                go_ret
                exact ⟨⟨_, rfl, trivial⟩, rfl⟩
              go_wp2
              go_loop [17, 22] (fun t i => ∃ k : Nat, ∃ z : Int, k ≤ E.length ∧ i = .int .i64 k ∧ t = .int .i64 z ∧ 0 ≤ z ∧ z ≤ 1048576) (fun _ i => E.length - (intOf i).toNat)
              case atStart => exact ⟨0, _, Nat.zero_le _, rfl, rfl, by omega, by omega⟩
              case round =>
                obtain ⟨k5, z5, hk5, rfl, rfl, hz50, hz51⟩ := hrel
                by_cases hlt5 : k5 < E.length
                · obtain ⟨hs5, b5, o5, rfl, hcell5⟩ := hcE k5 hlt5
                  generalize E.getD k5 ByteArray.empty = x5 at *
                  clear hcR hcL hcE hcP
                  by_cases u5 : 1048576 < x5.size
                  · go_wp2
                    go_ret
                    exact ⟨⟨_, rfl, trivial⟩, rfl⟩
                  by_cases t5 : 1048576 < z5 + (x5.size : Int)
                  · go_wp2
                    go_ret
                    exact ⟨⟨_, rfl, trivial⟩, rfl⟩
                  go_wp2
                  go_round
                  case rel => exact ⟨k5 + 1, _, by omega, by go_num, rfl, by omega, by omega⟩
                  case measure => simp [intOf]; omega
                · clear hcE
                  by_cases q6 : 1048576 < P.length
                  · have q6' : (1048576 : Int) < (P.length : Int) := by omega
                    go_wp2
                    go_ret
                    exact ⟨⟨_, rfl, trivial⟩, rfl⟩
                  by_cases p6 : 1048576 < z5 + (P.length : Int)
                  · go_wp2
                    go_ret
                    exact ⟨⟨_, rfl, trivial⟩, rfl⟩
                  go_wp2
                  go_loop [17, 23] (fun t i => ∃ k : Nat, ∃ z : Int, k ≤ P.length ∧ i = .int .i64 k ∧ t = .int .i64 z ∧ 0 ≤ z ∧ z ≤ 1048576) (fun _ i => P.length - (intOf i).toNat)
                  case atStart => exact ⟨0, _, Nat.zero_le _, rfl, rfl, by omega, by omega⟩
                  case round =>
                    obtain ⟨k6, z6, hk6, rfl, rfl, hz60, hz61⟩ := hrel
                    by_cases hlt6 : k6 < P.length
                    · obtain ⟨b6, o6, y6, rfl, hcell6, ar6, cr6, rfl, _, hrl6, hcr6⟩ := hcP k6 hlt6
                      generalize P.getD k6 [] = row6 at *
                      clear hcR hcL hcP
                      by_cases u6 : 1048576 < row6.length
                      · go_wp2
                        go_ret
                        exact ⟨⟨_, rfl, trivial⟩, rfl⟩
                      by_cases t6 : 1048576 < z6 + (row6.length : Int)
                      · go_wp2
                        go_ret
                        exact ⟨⟨_, rfl, trivial⟩, rfl⟩
                      go_wp2
                      go_loop [17, 24] (fun t i => ∃ k : Nat, ∃ z : Int, k ≤ row6.length ∧ i = .int .i64 k ∧ t = .int .i64 z ∧ 0 ≤ z ∧ z ≤ 1048576) (fun _ i => row6.length - (intOf i).toNat)
                      case atStart => exact ⟨0, _, Nat.zero_le _, rfl, rfl, by omega, by omega⟩
                      case round =>
                        obtain ⟨m6, y6, hm6, rfl, rfl, hy60, hy61⟩ := hrel
                        by_cases hmt6 : m6 < row6.length
                        · obtain ⟨hs6, b6', o6', rfl, hcell6'⟩ := hcr6 m6 hmt6
                          generalize row6.getD m6 ByteArray.empty = x6 at *
                          clear hcr6
                          by_cases u6' : 1048576 < x6.size
                          · go_wp2
                            go_ret
                            exact ⟨⟨_, rfl, trivial⟩, rfl⟩
                          by_cases t6' : 1048576 < y6 + (x6.size : Int)
                          · go_wp2
                            go_ret
                            exact ⟨⟨_, rfl, trivial⟩, rfl⟩
                          go_wp2
                          go_round
                          case rel => exact ⟨m6 + 1, _, by omega, by go_num, rfl, by omega, by omega⟩
                          case measure => simp [intOf]; omega
                        · clear hcr6
                          go_wp2
                          go_round
                          case rel => exact ⟨k6 + 1, _, by omega, by go_num, rfl, by omega, by omega⟩
                          case measure => simp [intOf]; omega
                    · clear hcP
                      go_wp2
                      go_ret
                      exact ⟨⟨_, rfl, trivial⟩, rfl⟩

end Go.Proofs.Qxb6603051a
