/-
  The row: 'FnTrimInStepsIsTrimAtOnce' returns true at every input; its arguments read behind the call as they read before.
-/
import Derived.Test.Qxb6605272aLate
import Derived.ProofKit
import Derived.OpenShut
import Derived.ShutString
namespace Go.Proofs.Qxb6605272a.fnTrimInStepsIsTrimAtOnce
open Go.ChangeShapes Go.WideShapes Go.ChangeAt Go.RowKit
open Go.ChangeMaps (open_string shut_string)
set_option linter.unusedVariables false      -- a walk need not use every 'w<i>' (that an integer argument fits its kind)

theorem own : ownKnob Try.prog.godebug = none := by kernel_rfl


theorem u64_nat {a : Int} (h : (Lit.int .u64 a).wf = true) : ∃ n : Nat, a = n ∧ n < 18446744073709551616 := by
  have h' := bounds_u64 h
  exact ⟨a.toNat, by omega, by omega⟩
theorem i64_le {a : Int} (h : (Lit.int .i64 a).wf = true) : a ≤ 9223372036854775807 := by
  have h' := bounds_i64 h
  omega
theorem u64_sub (a b : Nat) (h : b ≤ a) (ha : a < 18446744073709551616) : IntKind.u64.wrap ((a : Int) - b) = ((a - b : Nat) : Int) := by
  rw [IntKind.wrap]; simp [IntKind.bits, IntKind.signed]; omega

theorem walk (a0 : Int) (a1 : Int) (a2 : Int) (a3 : Int) (a4 : Int) (w0 : (Lit.int .u64 a0).wf = true) (w1 : (Lit.int .u64 a1).wf = true) (w2 : (Lit.int .u64 a2).wf = true) (w3 : (Lit.int .u64 a3).wf = true) (w4 : (Lit.int .i64 a4).wf = true) (w : World) :
    Calls Try.prog 6 #[.int .u64 a0, .int .u64 a1, .int .u64 a2, .int .u64 a3, .int .i64 a4] w fun e w' => TrueKept w e w' := by
  obtain ⟨f1, rfl, l1⟩ := u64_nat w0
  obtain ⟨f2, rfl, l2⟩ := u64_nat w1
  obtain ⟨st, rfl, l3⟩ := u64_nat w2
  obtain ⟨n, rfl, l4⟩ := u64_nat w3
  have l5 := i64_le w4
  clear w0 w1 w2 w3 w4
  by_cases hp : st ≤ f1 ∧ f1 ≤ f2 ∧ f2 < n
  · obtain ⟨h1, h2, h3⟩ := hp
    have hx := u64_sub n st (by omega) l4
    by_cases hb : 65536 < n - st
    · exact early2 f1 f2 st n a4 w h1 h2 h3 _ hx hb
    · by_cases hneg : a4 < 0
      · exact early3 f1 f2 st n a4 w h1 h2 h3 _ hx (by omega) hneg
      · obtain ⟨k, rfl⟩ : ∃ k : Nat, a4 = k := ⟨a4.toNat, by omega⟩
        obtain ⟨need, hneed⟩ : ∃ need : Nat, (((n - st : Nat) : Int) + 1024 - 1) / 1024 = need := ⟨(n - st + 1023) / 1024, by omega⟩
        by_cases hk : (k : Int) = need
        · obtain rfl : k = need := by omega
          have e1 : st + 1024 * ((f1 - st) / 1024) + 1024 * ((f2 - (st + 1024 * ((f1 - st) / 1024))) / 1024) = st + 1024 * ((f2 - st) / 1024) := by omega
          exact late f1 f2 st n k (n - st) (k - (f2 - st) / 1024) (k - (f1 - st) / 1024) ((f2 - st) / 1024) ((f1 - st) / 1024) ((f2 - (st + 1024 * ((f1 - st) / 1024))) / 1024) (st + 1024 * ((f2 - st) / 1024)) w h1 h2 h3 l4 hx (by omega)
            (by omega) (by omega) hneed rfl rfl rfl (by omega) (by omega) (by omega) (by omega) rfl e1 (by omega)
            (n - (st + 1024 * ((f2 - st) / 1024))) (u64_sub _ _ (by omega) l4) (by omega) (by omega)
            (f2 - (st + 1024 * ((f2 - st) / 1024))) (u64_sub _ _ (by omega) l2) (by omega)
            (st + 1024 * ((f2 - st) / 1024) - st) (u64_sub _ _ (by omega) (by omega)) (by omega) (by omega)
        · exact early4 f1 f2 st n k need w h1 h2 h3 _ hx (by omega) (by omega) hneed hk
  · exact early1 f1 f2 st n a4 w hp

set_option maxRecDepth 100000 in
theorem lifted (os : Os) (started : os.Started) (H : Type) (enc : TypeId × Value → H) :
    ReturnsInHanded {} Try.checked os 6 .any (Rows.fnTrimInStepsIsTrimAtOnceSpec.pre6 enc Try.prog Try.f6 Rows.fnTrimInStepsIsTrimAtOnceRow.domain false) (Rows.fnTrimInStepsIsTrimAtOnceSpec.post enc Try.prog Try.f6 false true false false) := by
  refine returnsInHanded_of_change (C := Try.checked) own started (by kernel_rfl) Try.func6
    (ChangeSpec.witness6 (enc := enc) (C := Try.checked) false ⟨#[], #[.int .u64 0, .int .u64 0, .int .u64 0, .int .u64 0, .int .i64 0], []⟩ 8 (by kernel_rfl) (by kernel_rfl) (by kernel_rfl) (by kernel_rfl)) ?_
  intro W base args ds gs before hval0 hW hcnd _
  have hval : ∀ (j : Nat) t v, Try.f6.params[j]? = some t → args[j]? = some v → Value.okWide Try.prog W .any base t v := hval0
  have hW' := hW
  obtain ⟨p, q, hA0, hV, rfl, hfz, hnd⟩ := hW
  have hA : DataW.TrodAll enc Try.prog W 0 (fun _ => true) true Try.f6.params.toList args.toList ds p := hA0
  rw [Try.params6] at hA hval
  obtain ⟨v0, vs0, d0, ds0, p0, q0, hargs, rfl, rfl, h0, r0⟩ := trodAll_cons hA
  obtain ⟨v1, vs1, d1, ds1, p1, q1, rfl, rfl, rfl, h1, r1⟩ := trodAll_cons r0
  obtain ⟨v2, vs2, d2, ds2, p2, q2, rfl, rfl, rfl, h2, r2⟩ := trodAll_cons r1
  obtain ⟨v3, vs3, d3, ds3, p3, q3, rfl, rfl, rfl, h3, r3⟩ := trodAll_cons r2
  obtain ⟨v4, vs4, d4, ds4, p4, q4, rfl, rfl, rfl, h4, r4⟩ := trodAll_cons r3
  obtain ⟨rfl, rfl, rfl⟩ := trodAll_nil r4
  obtain rfl : args = #[v0, v1, v2, v3, v4] := by cases args; simp_all
  obtain ⟨rfl, rfl⟩ := trodVars_none hV
  obtain ⟨a0, rfl, rfl, rfl, w0⟩ := open_int Try.underlying23 (hval 0 23 v0 rfl rfl) h0
  obtain ⟨a1, rfl, rfl, rfl, w1⟩ := open_int Try.underlying23 (hval 1 23 v1 rfl rfl) h1
  obtain ⟨a2, rfl, rfl, rfl, w2⟩ := open_int Try.underlying23 (hval 2 23 v2 rfl rfl) h2
  obtain ⟨a3, rfl, rfl, rfl, w3⟩ := open_int Try.underlying23 (hval 3 23 v3 rfl rfl) h3
  obtain ⟨a4, rfl, rfl, rfl, w4⟩ := open_int Try.underlying3 (hval 4 3 v4 rfl rfl) h4
  clear hA0 hval0
  refine (walk a0 a1 a2 a3 a4 w0 w1 w2 w3 w4 W).mono fun e W' ⟨he, bel⟩ => ?_
  subst he
  exact ⟨_, rfl, _, _, _, [], _, [], hW', trodAll_mk1 (shut_bool Try.underlying4 _),
    (trodAll_cons_mk (shut_int Try.underlying23 w0) (trodAll_cons_mk (shut_int Try.underlying23 w1) (trodAll_cons_mk (shut_int Try.underlying23 w2) (trodAll_cons_mk (shut_int Try.underlying23 w3) (trodAll_cons_mk (shut_int Try.underlying3 w4) trodAll_mk0))))), rfl, bel.frame _, fun h => by cases h⟩

theorem over : Rows.fnTrimInStepsIsTrimAtOnceRow.holds Try.pinned (OpenSpec.ofChange Rows.fnTrimInStepsIsTrimAtOnceSpec) :=
  OpenClaim.holds_of_wide 6 Try.f6 rfl rfl rfl rfl rfl rfl rfl ⟨rfl, rfl, rfl, rfl, rfl⟩ rfl rfl rfl rfl rfl (by kernel_rfl) Try.func6 (by kernel_rfl)
    (of_decide_eq_true (by kernel_rfl)) (by unfold Func.isWrapper; first | (rw [if_pos (by decide +kernel)]; kernel_rfl) | (rw [if_neg (by decide +kernel)]; exact ⟨rfl, rfl⟩))
    (fun os started H enc _ => lifted os started H enc)

/-- The statement. -/
theorem proved : Rows.FnTrimInStepsIsTrimAtOnceSaid :=
  over
#print axioms proved
end Go.Proofs.Qxb6605272a.fnTrimInStepsIsTrimAtOnce
