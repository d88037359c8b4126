/-
  No cell of these rows narrows 'for every input' (looked for: loops, veiled, ifaces, maps, wideKeys, modest, calm, conditions, laid).
  DERIVED. THE GIVEN ROWS OF THIS SEAT. 7 by the template 'for every input the law returns true; each argument reads behind the call as it read before'; 0 by the template 'total and deterministic' (their statements: Qxb6600940aTotals.lean).
  GIVEN WITH THE SEED: the statements are not yours to turn. If you find one false, say at which input.
  Laid BY PROGRAM, IN A SANDBOX (cutbox-rows.mjs): the forced cells as the released guide's own fill.sh prints them over the translation e2ee177f35580591… (all of the seat's roots in one cut). By AI agents, Wed Nov 11 2026. No macro, syntax, notation, axiom, sorry.
-/
import Derived.Test.Qxb6600940aChecked
import GoSem.Claim
import GoSem.ClaimJoined
import GoSem.ClaimMapViews
import Derived.JoinedTies
import Derived.KernelRfl
namespace Go.Proofs.Qxb6600940a
/- THE CELL 'sum', in the pinned program and in every row, IS THE sha256 OF THE DUMP (.gsa) THAT Qxb6600940aProg.lean LOADS. Nothing in Lean hashes anything: it is a label: what it is worth is what the hold of that sum in a sandbox is worth. -/
noncomputable def Try.pinned : Pinned := { name := "qxb6600940a", sum := "e2ee177f355805919e3d73da10b4f8667b401f11dad620e1feea5fd2d18f778f", checked := Try.checked }
namespace Rows
def none {H : Type} : Left H := { results := [], args := [] }

/-- 'zzlaws_pkg_cumulation_b1.FnFoldRuneCaseTable': WHATEVER THE INPUT: true; the input reads as it did. -/
def fnFoldRuneCaseTableSpec : ChangeSpec := { name := "fnFoldRuneCaseTable", fn := fun _ => fun
  | [d] => { results := [.lit (.bool true)], args := [d] }
  | _ => none }
def fnFoldRuneCaseTableRow : OpenClaim := { program := "qxb6600940a", sum := "e2ee177f355805919e3d73da10b4f8667b401f11dad620e1feea5fd2d18f778f", func := "example.com/kinscope/kinscope/zzlaws_pkg_cumulation_b1.FnFoldRuneCaseTable", spec := "fnFoldRuneCaseTable", plainKeys := false, apart := false }
def FnFoldRuneCaseTableSaid : Prop := fnFoldRuneCaseTableRow.holds Try.pinned (OpenSpec.ofChange fnFoldRuneCaseTableSpec)

/-- ITS FALSE NEIGHBOUR: 'it returns false'. Refute it at one input. -/
def fnFoldRuneCaseTableWrong : ChangeSpec := { name := "fnFoldRuneCaseTable", fn := fun _ => fun
  | [d] => { results := [.lit (.bool false)], args := [d] }
  | _ => none }
def FnFoldRuneCaseTableWrongFalsely : Prop := fnFoldRuneCaseTableRow.holds Try.pinned (OpenSpec.ofChange fnFoldRuneCaseTableWrong)

/-- 'zzlaws_pkg_cumulation_b1.FnFoldRuneIdempotent': WHATEVER THE INPUT: true; the input reads as it did. -/
def fnFoldRuneIdempotentSpec : ChangeSpec := { name := "fnFoldRuneIdempotent", fn := fun _ => fun
  | [d] => { results := [.lit (.bool true)], args := [d] }
  | _ => none }
def fnFoldRuneIdempotentRow : OpenClaim := { program := "qxb6600940a", sum := "e2ee177f355805919e3d73da10b4f8667b401f11dad620e1feea5fd2d18f778f", func := "example.com/kinscope/kinscope/zzlaws_pkg_cumulation_b1.FnFoldRuneIdempotent", spec := "fnFoldRuneIdempotent", plainKeys := false, apart := false }
def FnFoldRuneIdempotentSaid : Prop := fnFoldRuneIdempotentRow.holds Try.pinned (OpenSpec.ofChange fnFoldRuneIdempotentSpec)

/-- ITS FALSE NEIGHBOUR: 'it returns false'. Refute it at one input. -/
def fnFoldRuneIdempotentWrong : ChangeSpec := { name := "fnFoldRuneIdempotent", fn := fun _ => fun
  | [d] => { results := [.lit (.bool false)], args := [d] }
  | _ => none }
def FnFoldRuneIdempotentWrongFalsely : Prop := fnFoldRuneIdempotentRow.holds Try.pinned (OpenSpec.ofChange fnFoldRuneIdempotentWrong)

/-- 'zzlaws_pkg_cumulation_b1.FnFoldRuneFullWidthAgreesWithASCII': WHATEVER THE INPUT: true; the input reads as it did. -/
def fnFoldRuneFullWidthAgreesWithASCIISpec : ChangeSpec := { name := "fnFoldRuneFullWidthAgreesWithASCII", fn := fun _ => fun
  | [d] => { results := [.lit (.bool true)], args := [d] }
  | _ => none }
def fnFoldRuneFullWidthAgreesWithASCIIRow : OpenClaim := { program := "qxb6600940a", sum := "e2ee177f355805919e3d73da10b4f8667b401f11dad620e1feea5fd2d18f778f", func := "example.com/kinscope/kinscope/zzlaws_pkg_cumulation_b1.FnFoldRuneFullWidthAgreesWithASCII", spec := "fnFoldRuneFullWidthAgreesWithASCII", plainKeys := false, apart := false }
def FnFoldRuneFullWidthAgreesWithASCIISaid : Prop := fnFoldRuneFullWidthAgreesWithASCIIRow.holds Try.pinned (OpenSpec.ofChange fnFoldRuneFullWidthAgreesWithASCIISpec)

/-- ITS FALSE NEIGHBOUR: 'it returns false'. Refute it at one input. -/
def fnFoldRuneFullWidthAgreesWithASCIIWrong : ChangeSpec := { name := "fnFoldRuneFullWidthAgreesWithASCII", fn := fun _ => fun
  | [d] => { results := [.lit (.bool false)], args := [d] }
  | _ => none }
def FnFoldRuneFullWidthAgreesWithASCIIWrongFalsely : Prop := fnFoldRuneFullWidthAgreesWithASCIIRow.holds Try.pinned (OpenSpec.ofChange fnFoldRuneFullWidthAgreesWithASCIIWrong)

/-- 'zzlaws_pkg_cumulation_b1.FnListsInCountsSharedListsExactly': WHATEVER THE INPUT: true; the input reads as it did. -/
def fnListsInCountsSharedListsExactlySpec : ChangeSpec := { name := "fnListsInCountsSharedListsExactly", fn := fun _ => fun
  | [d1, d2, d3, d4, d5, d6] => { results := [.lit (.bool true)], args := [d1, d2, d3, d4, d5, d6] }
  | _ => none }
def fnListsInCountsSharedListsExactlyRow : OpenClaim := { program := "qxb6600940a", sum := "e2ee177f355805919e3d73da10b4f8667b401f11dad620e1feea5fd2d18f778f", func := "example.com/kinscope/kinscope/zzlaws_pkg_cumulation_b1.FnListsInCountsSharedListsExactly", spec := "fnListsInCountsSharedListsExactly", inPlace := ["internal/bytealg.abigen_runtime_cmpstring"], plainKeys := false, apart := false }
def FnListsInCountsSharedListsExactlySaid : Prop := fnListsInCountsSharedListsExactlyRow.holds Try.pinned (OpenSpec.ofChange fnListsInCountsSharedListsExactlySpec)

/-- ITS FALSE NEIGHBOUR: 'it returns false'. Refute it at one input. -/
def fnListsInCountsSharedListsExactlyWrong : ChangeSpec := { name := "fnListsInCountsSharedListsExactly", fn := fun _ => fun
  | [d1, d2, d3, d4, d5, d6] => { results := [.lit (.bool false)], args := [d1, d2, d3, d4, d5, d6] }
  | _ => none }
def FnListsInCountsSharedListsExactlyWrongFalsely : Prop := fnListsInCountsSharedListsExactlyRow.holds Try.pinned (OpenSpec.ofChange fnListsInCountsSharedListsExactlyWrong)

/-- 'zzlaws_pkg_cumulation_b1.FnListsInSymmetric': WHATEVER THE INPUT: true; the input reads as it did. -/
def fnListsInSymmetricSpec : ChangeSpec := { name := "fnListsInSymmetric", fn := fun _ => fun
  | [d1, d2, d3, d4, d5, d6] => { results := [.lit (.bool true)], args := [d1, d2, d3, d4, d5, d6] }
  | _ => none }
def fnListsInSymmetricRow : OpenClaim := { program := "qxb6600940a", sum := "e2ee177f355805919e3d73da10b4f8667b401f11dad620e1feea5fd2d18f778f", func := "example.com/kinscope/kinscope/zzlaws_pkg_cumulation_b1.FnListsInSymmetric", spec := "fnListsInSymmetric", inPlace := ["internal/bytealg.abigen_runtime_cmpstring"], plainKeys := false, apart := false }
def FnListsInSymmetricSaid : Prop := fnListsInSymmetricRow.holds Try.pinned (OpenSpec.ofChange fnListsInSymmetricSpec)

/-- ITS FALSE NEIGHBOUR: 'it returns false'. Refute it at one input. -/
def fnListsInSymmetricWrong : ChangeSpec := { name := "fnListsInSymmetric", fn := fun _ => fun
  | [d1, d2, d3, d4, d5, d6] => { results := [.lit (.bool false)], args := [d1, d2, d3, d4, d5, d6] }
  | _ => none }
def FnListsInSymmetricWrongFalsely : Prop := fnListsInSymmetricRow.holds Try.pinned (OpenSpec.ofChange fnListsInSymmetricWrong)

/-- 'zzlaws_pkg_cumulation_b1.FnCountIsDealsOfReachedBundles': WHATEVER THE INPUT: true; the input reads as it did. -/
def fnCountIsDealsOfReachedBundlesSpec : ChangeSpec := { name := "fnCountIsDealsOfReachedBundles", fn := fun _ => fun
  | [d1, d2, d3, d4, d5, d6, d7] => { results := [.lit (.bool true)], args := [d1, d2, d3, d4, d5, d6, d7] }
  | _ => none }
def fnCountIsDealsOfReachedBundlesRow : OpenClaim := { program := "qxb6600940a", sum := "e2ee177f355805919e3d73da10b4f8667b401f11dad620e1feea5fd2d18f778f", func := "example.com/kinscope/kinscope/zzlaws_pkg_cumulation_b1.FnCountIsDealsOfReachedBundles", spec := "fnCountIsDealsOfReachedBundles", inPlace := ["internal/bytealg.abigen_runtime_cmpstring"], plainKeys := false, apart := false }
def FnCountIsDealsOfReachedBundlesSaid : Prop := fnCountIsDealsOfReachedBundlesRow.holds Try.pinned (OpenSpec.ofChange fnCountIsDealsOfReachedBundlesSpec)

/-- ITS FALSE NEIGHBOUR: 'it returns false'. Refute it at one input. -/
def fnCountIsDealsOfReachedBundlesWrong : ChangeSpec := { name := "fnCountIsDealsOfReachedBundles", fn := fun _ => fun
  | [d1, d2, d3, d4, d5, d6, d7] => { results := [.lit (.bool false)], args := [d1, d2, d3, d4, d5, d6, d7] }
  | _ => none }
def FnCountIsDealsOfReachedBundlesWrongFalsely : Prop := fnCountIsDealsOfReachedBundlesRow.holds Try.pinned (OpenSpec.ofChange fnCountIsDealsOfReachedBundlesWrong)

/-- 'zzlaws_pkg_cumulation_b1.FnCountScriptOfScopes': WHATEVER THE INPUT: true; the input reads as it did. -/
def fnCountScriptOfScopesSpec : ChangeSpec := { name := "fnCountScriptOfScopes", fn := fun _ => fun
  | [d1, d2, d3, d4, d5, d6, d7, d8, d9, d10] => { results := [.lit (.bool true)], args := [d1, d2, d3, d4, d5, d6, d7, d8, d9, d10] }
  | _ => none }
def fnCountScriptOfScopesRow : OpenClaim := { program := "qxb6600940a", sum := "e2ee177f355805919e3d73da10b4f8667b401f11dad620e1feea5fd2d18f778f", func := "example.com/kinscope/kinscope/zzlaws_pkg_cumulation_b1.FnCountScriptOfScopes", spec := "fnCountScriptOfScopes", inPlace := ["internal/bytealg.abigen_runtime_cmpstring"], plainKeys := false, apart := false }
def FnCountScriptOfScopesSaid : Prop := fnCountScriptOfScopesRow.holds Try.pinned (OpenSpec.ofChange fnCountScriptOfScopesSpec)

/-- ITS FALSE NEIGHBOUR: 'it returns false'. Refute it at one input. -/
def fnCountScriptOfScopesWrong : ChangeSpec := { name := "fnCountScriptOfScopes", fn := fun _ => fun
  | [d1, d2, d3, d4, d5, d6, d7, d8, d9, d10] => { results := [.lit (.bool false)], args := [d1, d2, d3, d4, d5, d6, d7, d8, d9, d10] }
  | _ => none }
def FnCountScriptOfScopesWrongFalsely : Prop := fnCountScriptOfScopesRow.holds Try.pinned (OpenSpec.ofChange fnCountScriptOfScopesWrong)

end Rows
end Go.Proofs.Qxb6600940a
