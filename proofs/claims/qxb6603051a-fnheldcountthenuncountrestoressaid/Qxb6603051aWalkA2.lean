/-
  DERIVED. The law's count of bytes: strings, and slices of slices.
-/
import Derived.Test.Qxb6603051aWalkA
namespace Go.Proofs.Qxb6603051a
open Go.RowKit

theorem Sum.ge {x r : Int} (h : Sum x r) : SumGe x r := by
  rcases h with h | ⟨h, h2⟩
  · exact Or.inl h
  · exact Or.inr ⟨by omega, by omega⟩
theorem SumGe.bounds {x r : Int} (h : SumGe x r) (hx : 0 ≤ x) : 0 ≤ r ∧ r ≤ 1048577 := by
  rcases h with h | ⟨h, h2⟩ <;> constructor <;> omega
theorem SumGe.trans {x y r s : Int} (h : SumGe x r) (h2 : SumGe (r + y) s) (hy : 0 ≤ y) : SumGe (x + y) s := by
  rcases h2 with h2 | ⟨h2, h3⟩
  · exact Or.inl h2
  · rcases h with h | ⟨h, h'⟩
    · omega
    · exact Or.inr ⟨by omega, h3⟩
theorem SumGe.mono {x y r : Int} (h : SumGe x r) (hxy : y ≤ x) : SumGe y r := by
  rcases h with h | ⟨h, h2⟩
  · exact Or.inl h
  · exact Or.inr ⟨by omega, h2⟩

set_option maxHeartbeats 800000 in
theorem strs_any (t : Int) (v : Value) (S : List ByteArray) (w : World) (h : Strs w v S) (ht : 0 ≤ t) (ht2 : t ≤ 1048577) : Calls Try.prog 40 #[.int .i64 t, v] w fun e w' => RetI (SumGe (t + S.length * 16)) e ∧ w' = w := by
  obtain ⟨a, cap, rfl, _, hl, hc⟩ := h
  have HC : Hid (∀ k, k < S.length → (S.getD k ByteArray.empty).size ≤ 9223372036854775807 ∧ ∃ b o, a = some ⟨b, o, none⟩ ∧ w.cell? ⟨b, o + k, none⟩ = some (.string (S.getD k ByteArray.empty))) := hc
  clear hc
  go_enter Try.func40, Try.ntmps40
  go_wp2_with fail
  refine (addW_any t S.length 16 _ ht (by omega) ht2 (by omega) (by omega)).mono ?_
  rintro e w1 ⟨⟨r, rfl, hr⟩, rfl⟩
  have HR : Hid (SumGe (t + S.length * 16) r) := hr.ge
  obtain ⟨hr0, hr1⟩ := HR.out.bounds (by omega)
  clear hr
  go_wp2
  go_loop [0, 5] (fun z i => ∃ (k : Nat) (x : Int), k ≤ S.length ∧ i = .int .i64 k ∧ z = .int .i64 x ∧ 0 ≤ x ∧ x ≤ 1048577 ∧ Hid (SumGe (t + S.length * 16) x)) (fun _ i => S.length - (intOf i).toNat)
  case atStart => exact ⟨0, r, Nat.zero_le _, rfl, rfl, hr0, hr1, HR.out⟩
  case round =>
    obtain ⟨k, x, hk, rfl, rfl, hx0, hx1, hx⟩ := hrel
    clear HR
    by_cases hlt : k < S.length
    · by_cases hx2 : x ≤ 1048576
      · obtain ⟨hs, b, o, rfl, hcell⟩ := HC.out k hlt
        generalize S.getD k ByteArray.empty = y at hs hcell
        have HA : Hid (∀ w, Calls Try.prog 39 #[.int .i64 x, .int .i64 (y.size : Nat)] w fun e w' => RetI (Sum (x + (y.size : Nat))) e ∧ w' = w) := fun w => add_any x y.size w hx0 (by omega) hx1
        go_wp2_with fail
        refine (HA.out _).mono ?_
        rintro e w2 ⟨⟨r2, rfl, hr2⟩, rfl⟩
        have HX : Hid (SumGe (t + S.length * 16) r2) := (hx.out.trans hr2.ge (by omega)).mono (by omega)
        obtain ⟨hy0, hy1⟩ := HX.out.bounds (by omega)
        clear hr2 HA
        go_wp2
        go_round
        case rel => exact ⟨k + 1, r2, by omega, by go_num, rfl, hy0, hy1, HX.out⟩
        case measure => simp [intOf]; omega
      · go_wp2
        go_ret
        exact ⟨⟨_, rfl, hx.out⟩, rfl⟩
    · go_wp2
      go_ret
      exact ⟨⟨_, rfl, hx.out⟩, rfl⟩

/-- How many elements T holds. -/
def words {α : Type} (T : List (List α)) : Nat := (T.map List.length).sum
theorem words_take_succ {α : Type} (T : List (List α)) (k : Nat) (h : k < T.length) : words (T.take (k + 1)) = words (T.take k) + (T.getD k []).length := by
  have e : T.getD k [] = T[k] := by rw [List.getD_eq_getElem?_getD, List.getElem?_eq_getElem h]; rfl
  unfold words
  rw [List.take_succ_eq_append_getElem h, List.map_append, List.sum_append, e]
  simp
theorem words_take_le {α : Type} (T : List (List α)) (k : Nat) : words (T.take k) ≤ words T := by
  have e : T.map List.length = (T.take k).map List.length ++ (T.drop k).map List.length := by rw [← List.map_append, List.take_append_drop]
  unfold words
  rw [e, List.sum_append]
  omega
theorem row_le_words {α : Type} (T : List (List α)) (k : Nat) (h : k < T.length) : (T.getD k []).length ≤ words T := by
  have h1 := words_take_succ T k h
  have h2 := words_take_le T (k + 1)
  omega

set_option maxHeartbeats 800000 in
theorem nested_any (t : Int) (v : Value) (T : List (List ByteArray)) (w : World) (h : STab w v T) (ht : 0 ≤ t) (ht2 : t ≤ 1048577) : Calls Try.prog 43 #[.int .i64 t, v] w fun e w' => RetI (SumGe (t + T.length * 24 + words T * 16)) e ∧ w' = w := by
  obtain ⟨a, cap, rfl, hl, hc⟩ := h
  have HC : Hid (∀ k, k < T.length → ∃ b o u, a = some ⟨b, o, none⟩ ∧ w.cell? ⟨b, o + k, none⟩ = some u ∧ Strs w u (T.getD k [])) := hc
  clear hc
  go_enter Try.func43, Try.ntmps43
  go_wp2_with fail
  refine (addW_any t T.length 24 _ ht (by omega) ht2 (by omega) (by omega)).mono ?_
  rintro e w1 ⟨⟨r, rfl, hr⟩, rfl⟩
  have HR : Hid (SumGe (t + T.length * 24) r) := hr.ge
  obtain ⟨hr0, hr1⟩ := HR.out.bounds (by omega)
  clear hr
  go_wp2
  go_loop [0, 5] (fun z i => ∃ (k : Nat) (x : Int), k ≤ T.length ∧ i = .int .i64 k ∧ z = .int .i64 x ∧ 0 ≤ x ∧ x ≤ 1048577 ∧ Hid (SumGe (t + T.length * 24 + words (T.take k) * 16) x)) (fun _ i => T.length - (intOf i).toNat)
  case atStart => exact ⟨0, r, Nat.zero_le _, rfl, rfl, hr0, hr1, by show SumGe _ _; simpa [words] using HR.out⟩
  case round =>
    obtain ⟨k, x, hk, rfl, rfl, hx0, hx1, hx⟩ := hrel
    clear HR
    by_cases hlt : k < T.length
    · by_cases hx2 : x ≤ 1048576
      · obtain ⟨b, o, u, rfl, hcell, hu⟩ := HC.out k hlt
        have HW : Hid (words (T.take (k + 1)) = words (T.take k) + (T.getD k []).length) := words_take_succ T k hlt
        generalize T.getD k [] = row at hu HW
        obtain ⟨au, cu, rfl⟩ := hu.slice
        have HU : Hid (Strs w1 (.slice au row.length cu) row) := hu
        clear hu
        go_wp2_with fail
        refine (strs_any x _ row _ HU.out hx0 hx1).mono ?_
        rintro e w2 ⟨⟨r2, rfl, hr2⟩, rfl⟩
        have HX : Hid (SumGe (t + T.length * 24 + words (T.take (k + 1)) * 16) r2) := by
          show SumGe _ _
          rw [HW.out]
          exact (hx.out.trans hr2 (by omega)).mono (by omega)
        obtain ⟨hy0, hy1⟩ := HX.out.bounds (by omega)
        clear hr2
        go_wp2
        go_round
        case rel => exact ⟨k + 1, r2, by omega, by go_num, rfl, hy0, hy1, HX.out⟩
        case measure => simp [intOf]; omega
      · have hx3 : x = 1048577 := by omega
        go_wp2
        go_ret
        exact ⟨⟨_, rfl, Or.inl rfl⟩, rfl⟩
    · have HF : Hid (SumGe (t + T.length * 24 + words T * 16) x) := by
        have := hx.out
        rw [List.take_of_length_le (by omega)] at this
        exact this
      go_wp2
      go_ret
      exact ⟨⟨_, rfl, HF.out⟩, rfl⟩

end Go.Proofs.Qxb6603051a
