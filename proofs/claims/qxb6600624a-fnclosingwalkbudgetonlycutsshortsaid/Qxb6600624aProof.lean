/-
  The row: 'FnClosingWalkBudgetOnlyCutsShort' returns true at every input; its arguments read behind the call as they read before.
-/
import Derived.Test.Qxb6600624aTop
import Derived.ProofKit
import Derived.OpenShut
import Derived.ShutString
import Derived.Deep.Matrix
namespace Go.Proofs.Qxb6600624a.closingWalkBudget
open Go.ChangeShapes Go.WideShapes Go.ChangeAt Go.RowKit Go.Deep
open Go.ChangeMaps (open_string shut_string)
set_option linter.unusedVariables false

theorem own : ownKnob Try.prog.godebug = none := by kernel_rfl
theorem laidOut : laidOutB Try.prog = true := by kernel_rfl

theorem ints_of {w : World} {A : Option Addr} {L C : Nat} {Z : List Int} (h1 : L ≤ C) (h2 : Z.length = C) (h3 : A = none → C = 0) (h4 : ∀ a', A = some a' → ∀ c, c < C → w.cell? (a'.add c) = some (.int .i64 (Z.getD c 0))) : Ints w (.slice A L C) (Z.take L) := by
  have hl : (Z.take L).length = L := by rw [List.length_take]; omega
  refine ⟨A, C, by rw [hl], fun hA => ?_, fun k hk => ?_⟩
  · have := h3 hA
    exact List.eq_nil_of_length_eq_zero (by omega)
  · rw [hl] at hk
    cases A with
    | none => have := h3 rfl; omega
    | some a' =>
      have hc := h4 a' rfl k (by omega)
      obtain ⟨b, o, sp⟩ := a'
      have hs : sp = none := by simpa [Addr.add] using World.cell?_spot (h4 ⟨b, o, sp⟩ rfl 0 (by omega))
      subst hs
      refine ⟨b, o, rfl, ?_⟩
      rw [← add_plain, hc]
      simp [List.getD, hk]

theorem tab_open {H : Type} {enc : TypeId × Value → H} {W : World} {v : Value} {d : DataW H} {p : List MemPlace} (h : DataW.Trod enc Try.prog W 0 (fun _ => true) true 22 v d p) (hv : ∃ a len cap, v = .slice a len cap) : ∃ T, Tab W v T := by
  obtain ⟨a0, len, cap, rfl⟩ := hv
  obtain ⟨fuel, hf⟩ := h
  rcases open_int_rows Try.underlying22 Try.underlying27 Try.underlying3 (by kernel_rfl) (by kernel_rfl) hf with ⟨hcs, _⟩ | ⟨a, len', cap', A, L, C, Z, hcs, _, hl, hm, _, hrows⟩
  · simp [Value.cells] at hcs
    obtain ⟨rfl, rfl, rfl⟩ := hcs
    exact ⟨[], none, 0, rfl, by simp, fun k hk => absurd hk (Nat.not_lt_zero _)⟩
  · simp [Value.cells] at hcs
    obtain ⟨rfl, rfl, rfl⟩ := hcs
    unfold maxLen at hm
    have hlen : ((List.range len).map fun r => (Z r).take (L r)).length = len := by simp
    refine ⟨(List.range len).map fun r => (Z r).take (L r), some a, cap, by rw [hlen], by rw [hlen]; omega, fun k hk => ?_⟩
    rw [hlen] at hk
    have hget : ((List.range len).map fun r => (Z r).take (L r)).getD k [] = (Z k).take (L k) := by simp [List.getD, hk]
    rw [hget]
    obtain ⟨hcell, h1, h2, h3, _, h5, h6⟩ := hrows k (by omega)
    unfold maxLen at h2
    refine ⟨by rw [List.length_take]; omega, ?_⟩
    obtain ⟨b, o, sp⟩ := a
    have hs : sp = none := by simpa [Addr.add] using World.cell?_spot (hrows 0 (by omega)).1
    subst hs
    refine ⟨b, o, _, rfl, by rw [← add_plain]; exact hcell, ints_of h1 h3 h5 fun a' e c hc => (h6 a' e).2 c hc⟩

theorem wf_le {n : Int} (h : (Lit.int .i64 n).wf = true) : n ≤ 9223372036854775807 := by
  have := bounds_i64 h
  omega

set_option maxRecDepth 100000 in
theorem lifted (os : Os) (started : os.Started) (H : Type) (enc : TypeId × Value → H) :
    ReturnsInHanded {} Try.checked os 6 .any (Rows.fnClosingWalkBudgetOnlyCutsShortSpec.pre6 enc Try.prog Try.f6 Rows.fnClosingWalkBudgetOnlyCutsShortRow.domain false) (Rows.fnClosingWalkBudgetOnlyCutsShortSpec.post enc Try.prog Try.f6 false true false false) := by
  refine returnsInHanded_of_change (C := Try.checked) own started (by kernel_rfl) Try.func6
    (ChangeSpec.witness6 (enc := enc) (C := Try.checked) false ⟨#[], #[.slice none 0 0, .slice none 0 0, .int .i64 0, .int .i64 0, .int .i64 0], []⟩ 8 (by kernel_rfl) (by kernel_rfl) (by kernel_rfl) (by kernel_rfl)) ?_
  intro W base args ds gs before hval0 hW hcnd _
  have hval : ∀ (j : Nat) t v, Try.f6.params[j]? = some t → args[j]? = some v → Value.okWide Try.prog W .any base t v := hval0
  have hW' := hW
  obtain ⟨p, q, hA0, hV, rfl, hfz, hnd⟩ := hW
  have hA : DataW.TrodAll enc Try.prog W 0 (fun _ => true) true Try.f6.params.toList args.toList ds p := hA0
  rw [Try.params6] at hA hval
  obtain ⟨v0, vs0, d0, ds0, p0, q0, hargs, rfl, rfl, h0, r0⟩ := trodAll_cons hA
  obtain ⟨v1, vs1, d1, ds1, p1, q1, rfl, rfl, rfl, h1, r1⟩ := trodAll_cons r0
  obtain ⟨v2, vs2, d2, ds2, p2, q2, rfl, rfl, rfl, h2, r2⟩ := trodAll_cons r1
  obtain ⟨v3, vs3, d3, ds3, p3, q3, rfl, rfl, rfl, h3, r3⟩ := trodAll_cons r2
  obtain ⟨v4, vs4, d4, ds4, p4, q4, rfl, rfl, rfl, h4, r4⟩ := trodAll_cons r3
  obtain ⟨rfl, rfl, rfl⟩ := trodAll_nil r4
  obtain rfl : args = #[v0, v1, v2, v3, v4] := by cases args; simp_all
  obtain ⟨rfl, rfl⟩ := trodVars_none hV
  have lt0 : ∀ x ∈ p0, x.block < W.heap.size := by obtain ⟨m, hm⟩ := h0; exact DataW.trod_lt m _ _ _ hm
  have lt1 : ∀ x ∈ p1, x.block < W.heap.size := by obtain ⟨m, hm⟩ := h1; exact DataW.trod_lt m _ _ _ hm
  obtain ⟨T, hT⟩ := tab_open h0 (okWide_slice Try.underlying22 (hval 0 22 v0 rfl rfl))
  obtain ⟨K, hK⟩ := tab_open h1 (okWide_slice Try.underlying22 (hval 1 22 v1 rfl rfl))
  obtain ⟨a2, rfl, rfl, rfl, w2⟩ := open_int Try.underlying3 (hval 2 3 v2 rfl rfl) h2
  obtain ⟨a3, rfl, rfl, rfl, w3⟩ := open_int Try.underlying3 (hval 3 3 v3 rfl rfl) h3
  obtain ⟨a4, rfl, rfl, rfl, w4⟩ := open_int Try.underlying3 (hval 4 3 v4 rfl rfl) h4
  clear hA0 hval0
  refine (law_walk v0 v1 T K a2 a3 a4 W hT hK (wf_le w4)).mono fun e W' ⟨he, bel⟩ => ?_
  subst he
  exact ⟨_, rfl, _, _, _, [], _, [], hW', trodAll_mk1 (shut_bool Try.underlying4 _),
    (trodAll_cons_mk (Below.trod laidOut (by kernel_rfl) (of_decide_eq_true (by kernel_rfl)) h0 bel lt0) (trodAll_cons_mk (Below.trod laidOut (by kernel_rfl) (of_decide_eq_true (by kernel_rfl)) h1 bel lt1)
      (trodAll_cons_mk (shut_int Try.underlying3 w2) (trodAll_cons_mk (shut_int Try.underlying3 w3) (trodAll_cons_mk (shut_int Try.underlying3 w4) trodAll_mk0))))), rfl, bel.frame _, fun h => by cases h⟩

theorem over : Rows.fnClosingWalkBudgetOnlyCutsShortRow.holds Try.pinned (OpenSpec.ofChange Rows.fnClosingWalkBudgetOnlyCutsShortSpec) :=
  OpenClaim.holds_of_wide 6 Try.f6 rfl rfl rfl rfl rfl rfl rfl ⟨rfl, rfl, rfl, rfl, rfl⟩ rfl rfl rfl rfl rfl (by kernel_rfl) Try.func6 (by kernel_rfl)
    (of_decide_eq_true (by kernel_rfl)) (by unfold Func.isWrapper; first | (rw [if_pos (by decide +kernel)]; kernel_rfl) | (rw [if_neg (by decide +kernel)]; exact ⟨rfl, rfl⟩))
    (fun os started H enc _ => lifted os started H enc)

/-- The statement. -/
theorem proved : Rows.FnClosingWalkBudgetOnlyCutsShortSaid := over
#print axioms proved
end Go.Proofs.Qxb6600624a.closingWalkBudget
