/-
  DERIVED. The law's count of bytes.
-/
import Derived.Test.Qxb6603051aRows
import Derived.Test.Qxb6603051aMem
namespace Go.Proofs.Qxb6603051a
open Go.RowKit

/-- A sum of bytes: past the cap, or x. -/
def Sum (x r : Int) : Prop := r = 1048577 ∨ (r = x ∧ x ≤ 1048576)
/-- .. or at least x. -/
def SumGe (x r : Int) : Prop := r = 1048577 ∨ (x ≤ r ∧ r ≤ 1048576)

set_option maxHeartbeats 400000 in
theorem add_any (t n : Int) (w : World) (ht : 0 ≤ t) (hn : 0 ≤ n) (ht2 : t ≤ 1048577) : Calls Try.prog 39 #[.int .i64 t, .int .i64 n] w fun e w' => RetI (Sum (t + n)) e ∧ w' = w := by
  by_cases h1 : 1048576 < t
  · go_enter Try.func39, Try.ntmps39
    go_wp2
    go_ret
    exact ⟨⟨_, rfl, Or.inl rfl⟩, rfl⟩
  · by_cases h3 : 1048576 < n
    · go_enter Try.func39, Try.ntmps39
      go_wp2
      go_ret
      exact ⟨⟨_, rfl, Or.inl rfl⟩, rfl⟩
    · by_cases h4 : 1048576 - n < t
      · go_enter Try.func39, Try.ntmps39
        go_wp2
        go_ret
        exact ⟨⟨_, rfl, Or.inl rfl⟩, rfl⟩
      · go_enter Try.func39, Try.ntmps39
        go_wp2
        go_ret
        exact ⟨⟨_, rfl, Or.inr ⟨by go_num, by omega⟩⟩, rfl⟩

set_option maxHeartbeats 400000 in
theorem addW_any (t n k : Int) (w : World) (ht : 0 ≤ t) (hn : 0 ≤ n) (ht2 : t ≤ 1048577) (hk : 0 ≤ k) (hk2 : k ≤ 64) : Calls Try.prog 45 #[.int .i64 t, .int .i64 n, .int .i64 k] w fun e w' => RetI (Sum (t + n * k)) e ∧ w' = w := by
  by_cases h3 : 1048576 < n
  · go_enter Try.func45, Try.ntmps45
    go_wp2
    go_ret
    exact ⟨⟨_, rfl, Or.inl rfl⟩, rfl⟩
  · have hm0 : 0 ≤ n * k := Int.mul_nonneg hn hk
    have hm1 : n * k ≤ 1048576 * 64 := Int.mul_le_mul (by omega) hk2 hk (by omega)
    have hw : IntKind.i64.wrap (n * k) = n * k := by rw [IntKind.wrap_i64]; omega
    have hw2 : wrap64 (n * k) = n * k := by unfold wrap64; omega
    have HA : Hid (∀ w, Calls Try.prog 39 #[.int .i64 t, .int .i64 (n * k)] w fun e w' => RetI (Sum (t + n * k)) e ∧ w' = w) := fun w => add_any t (n * k) w ht hm0 ht2
    go_enter Try.func45, Try.ntmps45
    go_wp2_with fail
    refine (HA.out _).mono ?_
    rintro e w1 ⟨⟨r, rfl, hr⟩, rfl⟩
    have HR : Hid (Sum (t + n * k) r) := hr
    clear hr
    go_wp2
    go_ret
    exact ⟨⟨_, rfl, HR.out⟩, rfl⟩
end Go.Proofs.Qxb6603051a
