import Derived.Test.Qxb6600624aRows
import Derived.Test.Qxb6600624aMem
import Derived.BigQuiet
namespace Go.Proofs.Qxb6600624a
open Go.RowKit

set_option maxHeartbeats 400000 in
theorem nestedBytes_any (v : Value) (T : List (List Int)) (w : World) (h : Tab w v T) :
    Calls Try.prog 8 #[v] w fun e w' => (∃ t : Int, e = .returned (.int .i64 t) ∧ (t = -1 ∨ (t = 8 * (T.length : Int) + 8 * (words T : Int) ∧ t ≤ 1048576))) ∧ w' = w := by
  obtain ⟨a, cap, rfl, hl, hc⟩ := h
  by_cases h1 : 131072 < T.length
  · have h1' : (131072 : Int) < T.length := by omega
    go_enter Try.func8, Try.ntmps8
    go_wp2
    go_ret
    exact ⟨⟨_, rfl, Or.inl rfl⟩, rfl⟩
  have h2 : T.length ≤ 131072 := by omega
  clear h1
  go_enter Try.func8, Try.ntmps8
  go_wp2
  go_loop [3, 4] (fun t i => ∃ k : Nat, k ≤ T.length ∧ i = .int .i64 k ∧ t = .int .i64 (8 * (T.length : Int) + 8 * (words (T.take k) : Int)) ∧ 8 * (T.length : Int) + 8 * (words (T.take k) : Int) ≤ 1048576) (fun _ i => T.length - (intOf i).toNat)
  case atStart => exact ⟨0, Nat.zero_le _, rfl, by simp [words], by simp [words]; omega⟩
  case round =>
    obtain ⟨k, hk, rfl, rfl, hb⟩ := hrel
    by_cases hlt : k < T.length
    · obtain ⟨hrl, b, o, u, rfl, hcell, a', cap', rfl, hn', hc'⟩ := hc k hlt
      have hw := words_take_succ T k hlt
      generalize hq : (T.getD k []).length = q at *
      generalize hp : words (T.take k) = p at *
      have HW : Hid (words (T.take (k + 1)) = p + q) := hw
      clear hw hc hc' hn' hq hp
      by_cases hq1 : 131072 < q
      · go_wp2
        go_ret
        exact ⟨⟨_, rfl, Or.inl rfl⟩, rfl⟩
      by_cases hq2 : 1048576 < 8 * (T.length : Int) + 8 * p + 8 * q
      · go_wp2
        go_ret
        exact ⟨⟨_, rfl, Or.inl rfl⟩, rfl⟩
      go_wp2
      go_round
      case rel => exact ⟨k + 1, by omega, by go_num, by rw [HW.out]; go_num, by rw [HW.out]; omega⟩
      case measure => simp [intOf]; omega
    · go_wp2
      go_ret
      exact ⟨⟨_, rfl, Or.inr ⟨by rw [List.take_of_length_le (by omega)], hb⟩⟩, rfl⟩

set_option maxHeartbeats 400000 in
theorem bytes_any (v1 v2 : Value) (T K : List (List Int)) (u v left : Int) (w : World) (h1 : Tab w v1 T) (h2 : Tab w v2 K) :
    Calls Try.prog 19 #[v1, v2, .int .i64 u, .int .i64 v, .int .i64 left] w fun e w' => RetB (fun _ => True) e ∧ w' = w := by
  obtain ⟨a, cap, rfl, hl, hc⟩ := h1
  obtain ⟨a2, cap2, rfl, hl2, hc2⟩ := h2
  by_cases q1 : 1048576 < T.length
  · have q1' : (1048576 : Int) < T.length := by omega
    go_enter Try.func19, Try.ntmps19
    go_wp2
    go_ret
    exact ⟨⟨_, rfl, trivial⟩, rfl⟩
  go_enter Try.func19, Try.ntmps19
  go_wp2
  go_loop [11, 12] (fun t i => ∃ k : Nat, ∃ z : Int, k ≤ T.length ∧ i = .int .i64 k ∧ t = .int .i64 z ∧ 0 ≤ z ∧ z ≤ 1048576) (fun _ i => T.length - (intOf i).toNat)
  case atStart => exact ⟨0, _, Nat.zero_le _, rfl, rfl, by omega, by omega⟩
  case round =>
    obtain ⟨k, z, hk, rfl, rfl, hz0, hz1⟩ := hrel
    by_cases hlt : k < T.length
    · obtain ⟨hrl, b, o, x, rfl, hcell, a', cap', rfl, hn', hc'⟩ := hc k hlt
      generalize hq : (T.getD k []).length = q at *
      clear hc hc' hn' hq hc2
      by_cases hq1 : 1048576 < q
      · go_wp2
        go_ret
        exact ⟨⟨_, rfl, trivial⟩, rfl⟩
      by_cases hq2 : 1048576 < z + q
      · go_wp2
        go_ret
        exact ⟨⟨_, rfl, trivial⟩, rfl⟩
      go_wp2
      go_round
      case rel => exact ⟨k + 1, _, by omega, by go_num, rfl, by omega, by omega⟩
      case measure => simp [intOf]; omega
    · clear hc
      by_cases q2 : 1048576 < K.length
      · go_wp2
        go_ret
        exact ⟨⟨_, rfl, trivial⟩, rfl⟩
      by_cases q3 : 1048576 < z + K.length
      · go_wp2
        go_ret
        exact ⟨⟨_, rfl, trivial⟩, rfl⟩
      go_wp2
      go_loop [11, 13] (fun t i => ∃ k : Nat, ∃ z : Int, k ≤ K.length ∧ i = .int .i64 k ∧ t = .int .i64 z ∧ 0 ≤ z ∧ z ≤ 1048576) (fun _ i => K.length - (intOf i).toNat)
      case atStart => exact ⟨0, _, Nat.zero_le _, rfl, rfl, by omega, by omega⟩
      case round =>
        obtain ⟨k2, z2, hk2, rfl, rfl, hz2, hz3⟩ := hrel
        by_cases hlt2 : k2 < K.length
        · obtain ⟨hrl, b, o, x, rfl, hcell, a', cap', rfl, hn', hc'⟩ := hc2 k2 hlt2
          generalize hq : (K.getD k2 []).length = q at *
          clear hc' hn' hq hc2
          by_cases hq1 : 1048576 < q
          · go_wp2
            go_ret
            exact ⟨⟨_, rfl, trivial⟩, rfl⟩
          by_cases hq2 : 1048576 < z2 + q
          · go_wp2
            go_ret
            exact ⟨⟨_, rfl, trivial⟩, rfl⟩
          go_wp2
          go_round
          case rel => exact ⟨k2 + 1, _, by omega, by go_num, rfl, by omega, by omega⟩
          case measure => simp [intOf]; omega
        · go_wp2
          go_ret
          exact ⟨⟨_, rfl, trivial⟩, rfl⟩

/-- Every integer of T is a node's number. -/
def inRange (T : List (List Int)) (n : Int) : Prop := ∀ k, k < T.length → ∀ j, j < (T.getD k []).length → 0 ≤ (T.getD k []).getD j 0 ∧ (T.getD k []).getD j 0 < n

set_option maxHeartbeats 400000 in
theorem inRange_any (v : Value) (T : List (List Int)) (n : Int) (w : World) (h : Tab w v T) :
    Calls Try.prog 9 #[v, .int .i64 n] w fun e w' => RetB (fun r => r = true → inRange T n) e ∧ w' = w := by
  obtain ⟨a, cap, rfl, hl, hc⟩ := h
  go_enter Try.func9, Try.ntmps9
  go_wp2
  go_loop [5] (fun i => ∃ k : Nat, k ≤ T.length ∧ i = .int .i64 k ∧ Hid (∀ k', k' < k → ∀ j, j < (T.getD k' []).length → 0 ≤ (T.getD k' []).getD j 0 ∧ (T.getD k' []).getD j 0 < n)) (fun i => T.length - (intOf i).toNat)
  case atStart => exact ⟨0, Nat.zero_le _, rfl, fun _ h => absurd h (Nat.not_lt_zero _)⟩
  case round =>
    obtain ⟨k, hk, rfl, hd⟩ := hrel
    by_cases hlt : k < T.length
    · obtain ⟨hrl, b, o, x, rfl, hcell, a', cap', rfl, hn', hc'⟩ := hc k hlt
      have HR : Hid (∀ row, row = T.getD k [] → ∀ k', k' < k + 1 → (k' < k ∨ T.getD k' [] = row)) := by
        intro row hrow k' hk'
        rcases Nat.lt_succ_iff_lt_or_eq.1 hk' with h | h
        · exact Or.inl h
        · exact Or.inr (by rw [h, hrow])
      generalize hrow : T.getD k [] = row at *
      have HR2 := HR.out row rfl
      have HR3 : Hid (∀ k', k' < k + 1 → (k' < k ∨ T.getD k' [] = row)) := HR2
      clear HR HR2 hrow hc hn'
      go_wp2
      go_loop [6] (fun i => ∃ j : Nat, j ≤ row.length ∧ i = .int .i64 j ∧ Hid (∀ j', j' < j → 0 ≤ row.getD j' 0 ∧ row.getD j' 0 < n)) (fun i => row.length - (intOf i).toNat)
      case atStart => exact ⟨0, Nat.zero_le _, rfl, fun _ h => absurd h (Nat.not_lt_zero _)⟩
      case round =>
        obtain ⟨j, hj, rfl, hdj⟩ := hrel
        by_cases hjl : j < row.length
        · obtain ⟨b', o', rfl, hcell'⟩ := hc' j hjl
          have HX : Hid (∀ x, x = row.getD j 0 → ∀ j', j' < j + 1 → (j' < j ∨ row.getD j' 0 = x)) := by
            intro row hrow k' hk'
            rcases Nat.lt_succ_iff_lt_or_eq.1 hk' with h | h
            · exact Or.inl h
            · exact Or.inr (by rw [h, hrow])
          generalize hx : row.getD j 0 = x at *
          have HX2 := HX.out x rfl
          have HX3 : Hid (∀ j', j' < j + 1 → (j' < j ∨ row.getD j' 0 = x)) := HX2
          clear HX HX2 hx hc'
          by_cases q1 : x < 0
          · go_wp2
            go_ret
            exact ⟨⟨_, rfl, fun h => by cases h⟩, rfl⟩
          by_cases q2 : n ≤ x
          · go_wp2
            go_ret
            exact ⟨⟨_, rfl, fun h => by cases h⟩, rfl⟩
          go_wp2
          go_round
          case rel =>
            refine ⟨j + 1, by omega, by go_num, fun j' hj' => ?_⟩
            rcases HX3.out j' hj' with h | h
            · exact hdj.out j' h
            · rw [h]; omega
          case measure => simp [intOf]; omega
        · go_wp2
          go_round
          case rel =>
            refine ⟨k + 1, by omega, by go_num, fun k' hk' => ?_⟩
            rcases HR3.out k' hk' with h | h
            · exact hd.out k' h
            · rw [h]; intro j' hj'; exact hdj.out j' (by omega)
          case measure => simp [intOf]; omega
    · go_wp2
      go_ret
      exact ⟨⟨_, rfl, fun _ k' hk' => hd.out k' (by omega)⟩, rfl⟩

/-- T and K are of one shape. -/
def sameShape (T K : List (List Int)) : Prop := T.length = K.length ∧ ∀ k, k < T.length → (T.getD k []).length = (K.getD k []).length

set_option maxHeartbeats 400000 in
theorem sameShape_any (v1 v2 : Value) (T K : List (List Int)) (w : World) (h1 : Tab w v1 T) (h2 : Tab w v2 K) :
    Calls Try.prog 15 #[v1, v2] w fun e w' => RetB (fun r => r = true → sameShape T K) e ∧ Drew w w' := by
  obtain ⟨a, cap, rfl, hl, hc⟩ := h1
  obtain ⟨a2, cap2, rfl, hl2, hc2⟩ := h2
  by_cases q : ¬ T.length = K.length
  · have q1 : ((T.length : Int) != (K.length : Int)) = true := by rw [bne_iff_ne]; omega
    go_enter Try.func15, Try.ntmps15
    go_wp2
    go_ret
    exact ⟨⟨_, rfl, fun h => by cases h⟩, 0, rfl⟩
  have q := Classical.not_not.1 q
  have q1 : ((T.length : Int) != (K.length : Int)) = false := by rw [q]; simp
  have HQ : Hid (T.length = K.length) := q
  have q2 : T.length ≤ K.length := by omega
  clear q
  go_enter Try.func15, Try.ntmps15
  go_wp2
  go_loopw [5] (fun i wr => ∃ k : Nat, k ≤ T.length ∧ i = .int .i64 k ∧ Hid ((∃ n, wr = w.drewN n) ∧ ∀ k', k' < k → (T.getD k' []).length = (K.getD k' []).length)) (fun i _ => T.length - (intOf i).toNat)
  case atStart => exact ⟨0, Nat.zero_le _, rfl, ⟨0, rfl⟩, fun _ h => absurd h (Nat.not_lt_zero _)⟩
  case round =>
    obtain ⟨k, hk, rfl, hd⟩ := hrel
    have hd0 := hd.out
    clear hd
    obtain ⟨⟨nd, rfl⟩, hd⟩ := hd0
    by_cases hlt : k < T.length
    · obtain ⟨hrl, b, o, x, rfl, hcell, a', cap', rfl, hn', hc'⟩ := hc k hlt
      obtain ⟨hrl2, b2, o2, x2, rfl, hcell2, a2', cap2', rfl, hn2', hc2'⟩ := hc2 k (by omega)
      have hlt2 : k < K.length := by omega
      have HR : Hid (∀ k', k' < k + 1 → (T.getD k' []).length = (K.getD k' []).length ∨ k' = k) := by
        intro k' hk'
        rcases Nat.lt_succ_iff_lt_or_eq.1 hk' with h | h
        · exact Or.inl (hd k' h)
        · exact Or.inr h
      generalize hrow : (T.getD k []).length = l1 at *
      generalize hrow2 : (K.getD k []).length = l2 at *
      have HE : Hid ((T.getD k []).length = l1 ∧ (K.getD k []).length = l2) := ⟨hrow, hrow2⟩
      clear hrow hrow2 hc hc2 hn' hn2' hc' hc2' hd
      by_cases e : l1 = l2
      · have e1 : ((l1 : Int) != (l2 : Int)) = false := by rw [e]; simp
        have E : Hid (l1 = l2) := e
        clear e
        go_wp2
        go_quiet (fail)
        go_wp2
        go_roundw
        case rel =>
          refine ⟨k + 1, by omega, by go_num, ⟨_, rfl⟩, fun k' hk' => ?_⟩
          rcases HR.out k' hk' with h | h
          · exact h
          · rw [h, HE.out.1, HE.out.2, E.out]
        case measure => simp [intOf]; omega
      · have e1 : ((l1 : Int) != (l2 : Int)) = true := by rw [bne_iff_ne]; omega
        clear e
        go_wp2
        go_quiet (fail)
        go_wp2
        go_ret
        exact ⟨⟨_, rfl, fun h => by cases h⟩, _, World.drewN_drewN _ _ _⟩
    · go_wp2
      go_ret
      exact ⟨⟨_, rfl, fun _ => ⟨HQ.out, fun k' hk' => hd k' (by omega)⟩⟩, _, rfl⟩

end Go.Proofs.Qxb6600624a
