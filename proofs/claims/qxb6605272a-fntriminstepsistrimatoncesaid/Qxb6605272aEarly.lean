/-
  DERIVED. The law where a premise fails; two trims on one row.
-/
import Derived.Test.Qxb6605272aTrim
namespace Go.Proofs.Qxb6605272a
open Go.RowKit

def TrueKept (w : World) (e : Ending) (w' : World) : Prop := e = .returned (.bool true) ∧ Below w.heap.size w w'

theorem trimF_twice (f : Nat → Value) (k r r1 d d1 d2 : Nat) (h1 : r1 + d1 = k) (h2 : r + d2 = r1) (h3 : d1 + d2 = d) (i : Nat) (hi : i < k) : trimF (trimF f r1 d1) r d2 i = trimF f r d i := by
  unfold trimF
  by_cases a : i < r
  · rw [if_pos a, if_pos a, if_pos (by omega), show i + d2 + d1 = i + d by omega]
  · rw [if_neg a, if_neg a, if_pos (show i < r + d by omega)]
    by_cases b : i < r + d2
    · rw [if_pos b]
    · rw [if_neg b, if_neg (by omega), if_pos (by omega)]
theorem trimF_isP {f : Nat → Value} {k r d : Nat} (h : ∀ i, i < k → isP (f i)) (hk : r + d ≤ k) (i : Nat) (hi : i < k) : isP (trimF f r d i) := by
  unfold trimF
  split
  · exact h _ (by omega)
  · split
    · trivial
    · exact h _ hi

set_option maxRecDepth 100000 in
theorem early1 (f1 f2 st n : Nat) (k : Int) (w : World) (h : ¬ (st ≤ f1 ∧ f1 ≤ f2 ∧ f2 < n)) : Calls Try.prog 6 #[.int .u64 f1, .int .u64 f2, .int .u64 st, .int .u64 n, .int .i64 k] w fun e w' => TrueKept w e w' := by
  by_cases h1 : (f1 : Int) < st
  · clear h
    go_enter Try.func6, Try.ntmps6
    go_wp2
    go_ret
    exact ⟨rfl, Below.refl _ _⟩
  · by_cases h2 : (f2 : Int) < f1
    · clear h
      go_enter Try.func6, Try.ntmps6
      go_wp2
      go_ret
      exact ⟨rfl, Below.refl _ _⟩
    · have h3 : (n : Int) ≤ f2 := by omega
      clear h
      go_enter Try.func6, Try.ntmps6
      go_wp2
      go_ret
      exact ⟨rfl, Below.refl _ _⟩

set_option maxRecDepth 100000 in
theorem early2 (f1 f2 st n : Nat) (k : Int) (w : World) (h1 : st ≤ f1) (h2 : f1 ≤ f2) (h3 : f2 < n) (x : Nat) (hx : IntKind.u64.wrap ((n : Int) - st) = x) (h : 65536 < x) : Calls Try.prog 6 #[.int .u64 f1, .int .u64 f2, .int .u64 st, .int .u64 n, .int .i64 k] w fun e w' => TrueKept w e w' := by
  go_enter Try.func6, Try.ntmps6
  go_wp2
  go_ret
  exact ⟨rfl, Below.refl _ _⟩

set_option maxRecDepth 100000 in
theorem early3 (f1 f2 st n : Nat) (k : Int) (w : World) (h1 : st ≤ f1) (h2 : f1 ≤ f2) (h3 : f2 < n) (x : Nat) (hx : IntKind.u64.wrap ((n : Int) - st) = x) (h : x ≤ 65536) (hk : k < 0) : Calls Try.prog 6 #[.int .u64 f1, .int .u64 f2, .int .u64 st, .int .u64 n, .int .i64 k] w fun e w' => TrueKept w e w' := by
  go_enter Try.func6, Try.ntmps6
  go_wp2
  go_ret
  exact ⟨rfl, Below.refl _ _⟩

set_option maxRecDepth 100000 in
theorem early4 (f1 f2 st n : Nat) (k need : Nat) (w : World) (h1 : st ≤ f1) (h2 : f1 ≤ f2) (h3 : f2 < n) (x : Nat) (hx : IntKind.u64.wrap ((n : Int) - st) = x) (h : x ≤ 65536) (hk : k ≤ 9223372036854775807) (hneed : ((x : Int) + 1024 - 1) / 1024 = need) (hne : (k : Int) ≠ need) :
    Calls Try.prog 6 #[.int .u64 f1, .int .u64 f2, .int .u64 st, .int .u64 n, .int .i64 k] w fun e w' => TrueKept w e w' := by
  have hb : ((k : Int) != (need : Int)) = true := by rw [bne_iff_ne]; exact hne
  clear hne
  go_enter Try.func6, Try.ntmps6
  go_wp2
  go_ret
  exact ⟨rfl, Below.refl _ _⟩

end Go.Proofs.Qxb6605272a
