import Derived.Test.Qxb6600624aLaw
namespace Go.Proofs.Qxb6600624a
open Go.RowKit

/-- The end of the law's walk. -/
def Good6 (w : World) (e : Ending) (w' : World) : Prop := e = .returned (.bool true) ∧ Below w.heap.size w w'

theorem drew_below {w w' : World} (h : Drew w w') (B : Nat) : Below B w w' := by
  obtain ⟨n, rfl⟩ := h
  exact below_drewN w n B

set_option maxRecDepth 100000 in
set_option maxHeartbeats 2000000 in
theorem law_walk (tv kv : Value) (T K : List (List Int)) (u v left : Int) (w : World) (hT : Tab w tv T) (hK : Tab w kv K) (hl : left ≤ 9223372036854775807) :
    Calls Try.prog 6 #[tv, kv, .int .i64 u, .int .i64 v, .int .i64 left] w fun e w' => Good6 w e w' := by
  have htl : T.length ≤ 9223372036854775807 := by obtain ⟨_, _, _, h, _⟩ := hT; exact h
  obtain ⟨a, cap, htv⟩ := tab_slice hT
  subst htv
  obtain ⟨a2, cap2, hkv⟩ := tab_slice hK
  subst hkv
  go_enter Try.func6, Try.ntmps6
  go_wp2_with fail
  refine (bytes_any _ _ T K u v left w hT hK).mono ?_
  rintro e w1 ⟨⟨r, rfl, _⟩, rfl⟩
  cases r with
  | false =>
    go_wp2
    go_ret
    exact ⟨rfl, Below.refl _ _⟩
  | true =>
  go_wp2_with fail
  refine (nestedBytes_any _ T w1 hT).mono ?_
  rintro e w2 ⟨⟨t1, rfl, ht1⟩, rfl⟩
  go_wp2_with fail
  refine (nestedBytes_any _ K w2 hK).mono ?_
  rintro e w3 ⟨⟨t2, rfl, ht2⟩, rfl⟩
  rcases ht1 with rfl | ⟨ht1, ht1'⟩
  · go_wp2
    go_ret
    exact ⟨rfl, Below.refl _ _⟩
  have h10 : 0 ≤ t1 := by omega
  rcases ht2 with rfl | ⟨ht2, ht2'⟩
  · clear ht1
    go_wp2
    go_ret
    exact ⟨rfl, Below.refl _ _⟩
  have h20 : 0 ≤ t2 := by omega
  have hTl : T.length ≤ 131072 := by omega
  have hKl : K.length ≤ 131072 := by omega
  have hTw : words T ≤ 131072 := by omega
  have hKw : words K ≤ 131072 := by omega
  clear ht1 ht2
  by_cases h12 : 1048576 < t1 + t2
  · go_wp2
    go_ret
    exact ⟨rfl, Below.refl _ _⟩
  by_cases hn : 65536 < T.length
  · go_wp2
    go_ret
    exact ⟨rfl, Below.refl _ _⟩
  by_cases hu0 : u < 0
  · go_wp2
    go_ret
    exact ⟨rfl, Below.refl _ _⟩
  by_cases hun : (T.length : Int) ≤ u
  · go_wp2
    go_ret
    exact ⟨rfl, Below.refl _ _⟩
  by_cases hv0 : v < 0
  · go_wp2
    go_ret
    exact ⟨rfl, Below.refl _ _⟩
  by_cases hvn : (T.length : Int) ≤ v
  · go_wp2
    go_ret
    exact ⟨rfl, Below.refl _ _⟩
  obtain ⟨un, rfl⟩ := Int.eq_ofNat_of_zero_le (show 0 ≤ u by omega)
  obtain ⟨vn, rfl⟩ := Int.eq_ofNat_of_zero_le (show 0 ≤ v by omega)
  go_wp2_with fail
  refine (sameShape_any _ _ T K w3 hT hK).mono ?_
  rintro e w4 ⟨⟨r, rfl, hsh⟩, hd4⟩
  have hb4 := drew_below hd4 w3.heap.size
  cases r with
  | false =>
    go_wp2
    go_ret
    exact ⟨rfl, hb4⟩
  | true =>
  have hsh2 : sameShape T K := hsh rfl
  have hT4 := hT.below hb4
  have hK4 := hK.below hb4
  go_wp2_with fail
  refine (inRange_any _ T (T.length : Int) w4 hT4).mono ?_
  rintro e w5 ⟨⟨r, rfl, hin⟩, rfl⟩
  cases r with
  | false =>
    go_wp2
    go_ret
    exact ⟨rfl, hb4⟩
  | true =>
  have hin := inR_of (hin rfl)
  have HIN : Hid (Plain.InR T T.length ∧ ∀ k, k < T.length → ∀ j, j < Plain.deg T k → (T.getD k []).getD j 0 = ((Plain.tgtOf T k j : Nat) : Int)) := hin
  have HSH : Hid (sameShape T K) := hsh2
  clear hin hsh hsh2
  go_wp2_with fail
  refine (copy_any _ T w5 hT4 hTl (fun k hk => by have := row_le_words T k hk; omega)).mono ?_
  rintro e w6 ⟨tv', rfl, hT6, hb6⟩
  have hb46 := hb4.trans (hb6.mono hb4.size)
  have hK6 := hK4.below hb6
  obtain ⟨a3, cap3, htv'⟩ := tab_slice hT6
  subst htv'
  go_wp2_with fail
  refine (copy_any _ K w6 hK6 hKl (fun k hk => by have := row_le_words K k hk; omega)).mono ?_
  rintro e w7 ⟨kv', rfl, hK7, hb7⟩
  have hb47 := hb46.trans (hb7.mono hb46.size)
  have hT7 := hT6.below hb7
  obtain ⟨a4, cap4, hkv'⟩ := tab_slice hK7
  subst hkv'
  clear hT4 hK4 hK6 hT6 hd4 hb46
  go_wp2_with fail
  have HCALL : Hid (∀ (lim : Bool) (l : Int) (w : World), l ≤ 9223372036854775807 → Tab w (.slice a3 T.length cap3) T → Tab w (.slice a4 K.length cap4) K → Calls Try.prog 16 #[.slice a3 T.length cap3, .slice a4 K.length cap4, .int .i64 un, .int .i64 vn, .bool lim, .int .i64 l] w fun e w' => ZZAns w w' lim T K un vn l e) :=
    fun lim l w hl h1 h2 => zz_any _ _ T K un vn lim l w h1 h2 (by omega) HSH.out.1 HSH.out.2 (fun k hk => by have := row_le_words T k hk; exact Nat.le_trans this hTw) HIN.out.2 (by omega) (by omega) HIN.out.1 hl
  refine (HCALL.out false 0 w7 (by decide) hT7 hK7).mono ?_
  rintro e w8 ⟨hb8, hA8⟩
  have hT8 := hT7.below hb8
  have hK8 := hK7.below hb8
  -- the free walk's ending
  have hfree : ∃ wf, e = .returned (.tuple #[wf, .bool true]) := by
    obtain ⟨bud, hb, i, hi, h⟩ := hA8
    rcases h with ⟨hbn, _⟩ | ⟨hst, wf, he, hW⟩
    · exact absurd (hb hbn) (by decide)
    · exact ⟨wf, he⟩
  obtain ⟨wf, rfl⟩ := hfree
  have HA8 : Hid (∃ bud : Option Nat, (bud ≠ none → false = true) ∧ Answer w8 bud T K un (4 * un + 1) (4 * vn + 2) 0 (.returned (.tuple #[wf, .bool true]))) := hA8
  clear hA8 hT7 hK7
  go_wp2_with fail
  refine (HCALL.out true left w8 hl hT8 hK8).mono ?_
  rintro e w9 ⟨hb9, hA9⟩
  have hag := agree HA8.out hA9 HIN.out.1 (by omega) (by omega)
  obtain ⟨wf', s, he1, hWf, hql, hcase⟩ := hag
  have hwf : wf' = wf := by
    injection he1 with h1
    injection h1 with h2
    simp at h2
    exact h2.symm
  subst hwf
  have hWf9 := hWf.below hb9
  have hT9 := hT8.below hb9
  have hall : Below w3.heap.size w3 w9 := (hb47.trans (hb8.mono hb47.size)).trans (hb9.mono (Nat.le_trans hb47.size hb8.size))
  clear hA9 he1 hWf HA8 HCALL hT8 hK8 hb8 hb9 hb47 hb7 hb6 hb4
  have qn : ∀ (w : World), (binOp .neq 27 (.slice none 0 0) (.slice none 0 0)).run Try.prog w = .ok (.bool false) w := fun w => run_neq_slice_nil_any w _ _ _ _ _ _ _ Try.underlying27
  rcases hcase with ⟨rfl, hlt⟩ | ⟨wc, rfl, hWc⟩
  · go_wp2
    obtain ⟨_, _, hsl, _, hc⟩ := hT9
    injection hsl with hsl1 hsl2 hsl3
    subst hsl1
    go_loop [18, 19] (fun t i => ∃ k : Nat, k ≤ T.length ∧ i = .int .i64 k ∧ t = .int .i64 (words (T.take k) : Nat)) (fun _ i => T.length - (intOf i).toNat)
    case atStart => exact ⟨0, Nat.zero_le _, rfl, rfl⟩
    case round =>
      obtain ⟨k, hk, rfl, rfl⟩ := hrel
      by_cases hlt2 : k < T.length
      · obtain ⟨hrl, b, o, x, rfl, hcell, a', cap', rfl, hn', hc'⟩ := hc k hlt2
        have hw := words_take_succ T k hlt2
        have hw2 := words_take_le T k
        have hw3 := row_le_words T k hlt2
        generalize hq : (T.getD k []).length = q at *
        generalize hp : words (T.take k) = p at *
        have HW : Hid (words (T.take (k + 1)) = p + q) := hw
        clear hw hc hc' hn' hq hp
        go_wp2
        go_round
        case rel => exact ⟨k + 1, by omega, by go_num, by rw [HW.out]; go_num⟩
        case measure => simp [intOf]; omega
      · rw [List.take_of_length_le (by omega)]
        go_wp2
        go_ret
        exact ⟨rfl, hall⟩
  · go_wp2_with fail
    refine (sameWalk_of hWc hWf9 hql).mono ?_
    rintro e w10 ⟨rfl, hd10⟩
    have hb10 := drew_below hd10 w9.heap.size
    have hT10 := hT9.below hb10
    have hall2 : Below w3.heap.size w3 w10 := hall.trans (hb10.mono hall.size)
    clear hT9 hWf9 hWc hd10 hb10 hall
    obtain ⟨_, _, hsl, _, hc⟩ := hT10
    injection hsl with hsl1 hsl2 hsl3
    subst hsl1
    go_wp2
    go_loop [18, 19] (fun t i => ∃ k : Nat, k ≤ T.length ∧ i = .int .i64 k ∧ t = .int .i64 (words (T.take k) : Nat)) (fun _ i => T.length - (intOf i).toNat)
    case atStart => exact ⟨0, Nat.zero_le _, rfl, rfl⟩
    case round =>
      obtain ⟨k, hk, rfl, rfl⟩ := hrel
      by_cases hlt2 : k < T.length
      · obtain ⟨hrl, b, o, x, rfl, hcell, a', cap', rfl, hn', hc'⟩ := hc k hlt2
        have hw := words_take_succ T k hlt2
        have hw2 := words_take_le T k
        have hw3 := row_le_words T k hlt2
        generalize hq : (T.getD k []).length = q at *
        generalize hp : words (T.take k) = p at *
        have HW : Hid (words (T.take (k + 1)) = p + q) := hw
        clear hw hc hc' hn' hq hp
        go_wp2
        go_round
        case rel => exact ⟨k + 1, by omega, by go_num, by rw [HW.out]; go_num⟩
        case measure => simp [intOf]; omega
      · rw [List.take_of_length_le (by omega)]
        by_cases hlw : 4 * (words T : Int) ≤ left
        · go_wp2
          go_ret
          exact ⟨rfl, hall2⟩
        · go_wp2
          go_ret
          exact ⟨rfl, hall2⟩

end Go.Proofs.Qxb6600624a
