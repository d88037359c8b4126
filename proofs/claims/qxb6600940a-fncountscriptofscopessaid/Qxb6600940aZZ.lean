/-
  DERIVED. ZZCount: it hands its arguments to count.
-/
import Derived.Test.Qxb6600940aCount
namespace Go.Proofs.Qxb6600940a
open Go.RowKit

set_option maxHeartbeats 400000 in
theorem zzCount_any (I : Ix) (W w : World) (marked : Int) (mk : Nat → Int) (lv : Value) (m : Nat) (xs : List Value) (sv : Value) (S : List ByteArray) (sc st : ByteArray) (hs : I.Stat W) (hd : I.Dyn W w marked mk lv m xs)
    (hS : StrsIn (fun b => b < I.base) W sv S) (hl : S.length ≤ 4096) (hasc : Asc S) (hsc : sc.size ≤ maxLen) (hst : st.size ≤ maxLen) (hm0 : 0 ≤ marked) (hm1 : marked < 4611686018427387904) (hmk : ∀ i, i < I.n → 0 ≤ mk i ∧ mk i ≤ marked) :
    Calls Try.prog 26 #[.pointer (some ⟨I.fb, 0, none⟩), sv, .string sc, .string st] w fun e w' => Counted I W (wrap64 (sumTo I.T I.C I.X I.D S sc st I.n)) e w' (marked + 1) := by
  have HC : Hid (Calls Try.prog 39 #[.pointer (some ⟨I.fb, 0, none⟩), .agg #[sv, .string sc, .string st, .int .i32 0]] w fun e w' => Counted I W (wrap64 (sumTo I.T I.C I.X I.D S sc st I.n)) e w' (marked + 1)) :=
    count_any I W w marked mk lv m xs sv S sc st hs hd hS hl hasc hsc hst hm0 hm1 hmk
  obtain ⟨sa, scap, rfl, _⟩ := hS.2.2
  clear hs hd hS hasc hmk
  go_enter Try.func26, Try.ntmps26
  go_wp2_with fail
  refine HC.out.mono ?_
  rintro e w' ⟨rfl, hc⟩
  go_wp2
  go_ret
  exact ⟨rfl, hc⟩
end Go.Proofs.Qxb6600940a
