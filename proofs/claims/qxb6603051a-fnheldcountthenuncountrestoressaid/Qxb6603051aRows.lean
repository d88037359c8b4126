/-
  NARROWER THAN 'FOR EVERY INPUT', by the rows' own cells (each row's printed sentence says how): FnLeadMatchesModel: maps · FnLeadTwiceIsOnce: maps · FnSpreadLeavesShardsBalancedAndCounted: maps · FnSpreadTwiceIsOnce: maps.
  DERIVED. THE GIVEN ROWS OF THIS SEAT. 6 by the template 'for every input the law returns true; each argument reads behind the call as it read before'; 0 by the template 'total and deterministic' (their statements: Qxb6603051aTotals.lean).
  GIVEN WITH THE SEED: the statements are not yours to turn. If you find one false, say at which input.
  Laid BY PROGRAM, IN A SANDBOX (cutbox-rows.mjs): the forced cells as the released guide's own fill.sh prints them over the translation f128e6bc8a2fb4b8… (all of the seat's roots in one cut). By AI agents, Wed Nov 11 2026. No macro, syntax, notation, axiom, sorry.
-/
import Derived.Test.Qxb6603051aChecked
import GoSem.Claim
import GoSem.ClaimJoined
import GoSem.ClaimMapViews
import Derived.JoinedTies
import Derived.KernelRfl
namespace Go.Proofs.Qxb6603051a
/- THE CELL 'sum', in the pinned program and in every row, IS THE sha256 OF THE DUMP (.gsa) THAT Qxb6603051aProg.lean LOADS. Nothing in Lean hashes anything: it is a label: what it is worth is what the hold of that sum in a sandbox is worth. -/
noncomputable def Try.pinned : Pinned := { name := "qxb6603051a", sum := "f128e6bc8a2fb4b8cfe0df6ce173a75ac44f89e74606eecf502a2bbe3589dcdf", checked := Try.checked }
namespace Rows
def none {H : Type} : Left H := { results := [], args := [] }

/-- 'zzlaws_internal_catalog_b1.FnLeadMatchesModel': WHATEVER THE INPUT: true; the input reads as it did. -/
def fnLeadMatchesModelSpec : ChangeSpec := { name := "fnLeadMatchesModel", fn := fun _ => fun
  | [d1, d2, d3, d4, d5, d6] => { results := [.lit (.bool true)], args := [d1, d2, d3, d4, d5, d6] }
  | _ => none }
def fnLeadMatchesModelRow : OpenClaim := { program := "qxb6603051a", sum := "f128e6bc8a2fb4b8cfe0df6ce173a75ac44f89e74606eecf502a2bbe3589dcdf", func := "example.com/bellwether/bellwether/zzlaws_internal_catalog_b1.FnLeadMatchesModel", spec := "fnLeadMatchesModel", maps := true, apart := false }
def FnLeadMatchesModelSaid : Prop := fnLeadMatchesModelRow.holds Try.pinned (OpenSpec.ofChange fnLeadMatchesModelSpec)

/-- ITS FALSE NEIGHBOUR: 'it returns false'. Refute it at one input. -/
def fnLeadMatchesModelWrong : ChangeSpec := { name := "fnLeadMatchesModel", fn := fun _ => fun
  | [d1, d2, d3, d4, d5, d6] => { results := [.lit (.bool false)], args := [d1, d2, d3, d4, d5, d6] }
  | _ => none }
def FnLeadMatchesModelWrongFalsely : Prop := fnLeadMatchesModelRow.holds Try.pinned (OpenSpec.ofChange fnLeadMatchesModelWrong)

/-- 'zzlaws_internal_catalog_b1.FnLeadTwiceIsOnce': WHATEVER THE INPUT: true; the input reads as it did. -/
def fnLeadTwiceIsOnceSpec : ChangeSpec := { name := "fnLeadTwiceIsOnce", fn := fun _ => fun
  | [d1, d2, d3, d4, d5, d6] => { results := [.lit (.bool true)], args := [d1, d2, d3, d4, d5, d6] }
  | _ => none }
def fnLeadTwiceIsOnceRow : OpenClaim := { program := "qxb6603051a", sum := "f128e6bc8a2fb4b8cfe0df6ce173a75ac44f89e74606eecf502a2bbe3589dcdf", func := "example.com/bellwether/bellwether/zzlaws_internal_catalog_b1.FnLeadTwiceIsOnce", spec := "fnLeadTwiceIsOnce", maps := true, apart := false }
def FnLeadTwiceIsOnceSaid : Prop := fnLeadTwiceIsOnceRow.holds Try.pinned (OpenSpec.ofChange fnLeadTwiceIsOnceSpec)

/-- ITS FALSE NEIGHBOUR: 'it returns false'. Refute it at one input. -/
def fnLeadTwiceIsOnceWrong : ChangeSpec := { name := "fnLeadTwiceIsOnce", fn := fun _ => fun
  | [d1, d2, d3, d4, d5, d6] => { results := [.lit (.bool false)], args := [d1, d2, d3, d4, d5, d6] }
  | _ => none }
def FnLeadTwiceIsOnceWrongFalsely : Prop := fnLeadTwiceIsOnceRow.holds Try.pinned (OpenSpec.ofChange fnLeadTwiceIsOnceWrong)

/-- 'zzlaws_internal_catalog_b1.FnSpreadLeavesShardsBalancedAndCounted': WHATEVER THE INPUT: true; the input reads as it did. -/
def fnSpreadLeavesShardsBalancedAndCountedSpec : ChangeSpec := { name := "fnSpreadLeavesShardsBalancedAndCounted", fn := fun _ => fun
  | [d1, d2, d3, d4, d5, d6] => { results := [.lit (.bool true)], args := [d1, d2, d3, d4, d5, d6] }
  | _ => none }
def fnSpreadLeavesShardsBalancedAndCountedRow : OpenClaim := { program := "qxb6603051a", sum := "f128e6bc8a2fb4b8cfe0df6ce173a75ac44f89e74606eecf502a2bbe3589dcdf", func := "example.com/bellwether/bellwether/zzlaws_internal_catalog_b1.FnSpreadLeavesShardsBalancedAndCounted", spec := "fnSpreadLeavesShardsBalancedAndCounted", maps := true, apart := false }
def FnSpreadLeavesShardsBalancedAndCountedSaid : Prop := fnSpreadLeavesShardsBalancedAndCountedRow.holds Try.pinned (OpenSpec.ofChange fnSpreadLeavesShardsBalancedAndCountedSpec)

/-- ITS FALSE NEIGHBOUR: 'it returns false'. Refute it at one input. -/
def fnSpreadLeavesShardsBalancedAndCountedWrong : ChangeSpec := { name := "fnSpreadLeavesShardsBalancedAndCounted", fn := fun _ => fun
  | [d1, d2, d3, d4, d5, d6] => { results := [.lit (.bool false)], args := [d1, d2, d3, d4, d5, d6] }
  | _ => none }
def FnSpreadLeavesShardsBalancedAndCountedWrongFalsely : Prop := fnSpreadLeavesShardsBalancedAndCountedRow.holds Try.pinned (OpenSpec.ofChange fnSpreadLeavesShardsBalancedAndCountedWrong)

/-- 'zzlaws_internal_catalog_b1.FnSpreadTwiceIsOnce': WHATEVER THE INPUT: true; the input reads as it did. -/
def fnSpreadTwiceIsOnceSpec : ChangeSpec := { name := "fnSpreadTwiceIsOnce", fn := fun _ => fun
  | [d1, d2, d3, d4, d5, d6] => { results := [.lit (.bool true)], args := [d1, d2, d3, d4, d5, d6] }
  | _ => none }
def fnSpreadTwiceIsOnceRow : OpenClaim := { program := "qxb6603051a", sum := "f128e6bc8a2fb4b8cfe0df6ce173a75ac44f89e74606eecf502a2bbe3589dcdf", func := "example.com/bellwether/bellwether/zzlaws_internal_catalog_b1.FnSpreadTwiceIsOnce", spec := "fnSpreadTwiceIsOnce", maps := true, apart := false }
def FnSpreadTwiceIsOnceSaid : Prop := fnSpreadTwiceIsOnceRow.holds Try.pinned (OpenSpec.ofChange fnSpreadTwiceIsOnceSpec)

/-- ITS FALSE NEIGHBOUR: 'it returns false'. Refute it at one input. -/
def fnSpreadTwiceIsOnceWrong : ChangeSpec := { name := "fnSpreadTwiceIsOnce", fn := fun _ => fun
  | [d1, d2, d3, d4, d5, d6] => { results := [.lit (.bool false)], args := [d1, d2, d3, d4, d5, d6] }
  | _ => none }
def FnSpreadTwiceIsOnceWrongFalsely : Prop := fnSpreadTwiceIsOnceRow.holds Try.pinned (OpenSpec.ofChange fnSpreadTwiceIsOnceWrong)

/-- 'zzlaws_internal_catalog_b1.FnHeldCountMatchesTally': WHATEVER THE INPUT: true; the input reads as it did. -/
def fnHeldCountMatchesTallySpec : ChangeSpec := { name := "fnHeldCountMatchesTally", fn := fun _ => fun
  | [d1, d2, d3, d4, d5, d6, d7, d8] => { results := [.lit (.bool true)], args := [d1, d2, d3, d4, d5, d6, d7, d8] }
  | _ => none }
def fnHeldCountMatchesTallyRow : OpenClaim := { program := "qxb6603051a", sum := "f128e6bc8a2fb4b8cfe0df6ce173a75ac44f89e74606eecf502a2bbe3589dcdf", func := "example.com/bellwether/bellwether/zzlaws_internal_catalog_b1.FnHeldCountMatchesTally", spec := "fnHeldCountMatchesTally", apart := false }
def FnHeldCountMatchesTallySaid : Prop := fnHeldCountMatchesTallyRow.holds Try.pinned (OpenSpec.ofChange fnHeldCountMatchesTallySpec)

/-- ITS FALSE NEIGHBOUR: 'it returns false'. Refute it at one input. -/
def fnHeldCountMatchesTallyWrong : ChangeSpec := { name := "fnHeldCountMatchesTally", fn := fun _ => fun
  | [d1, d2, d3, d4, d5, d6, d7, d8] => { results := [.lit (.bool false)], args := [d1, d2, d3, d4, d5, d6, d7, d8] }
  | _ => none }
def FnHeldCountMatchesTallyWrongFalsely : Prop := fnHeldCountMatchesTallyRow.holds Try.pinned (OpenSpec.ofChange fnHeldCountMatchesTallyWrong)

/-- 'zzlaws_internal_catalog_b1.FnHeldCountThenUncountRestores': WHATEVER THE INPUT: true; the input reads as it did. -/
def fnHeldCountThenUncountRestoresSpec : ChangeSpec := { name := "fnHeldCountThenUncountRestores", fn := fun _ => fun
  | [d1, d2, d3, d4, d5, d6, d7, d8] => { results := [.lit (.bool true)], args := [d1, d2, d3, d4, d5, d6, d7, d8] }
  | _ => none }
def fnHeldCountThenUncountRestoresRow : OpenClaim := { program := "qxb6603051a", sum := "f128e6bc8a2fb4b8cfe0df6ce173a75ac44f89e74606eecf502a2bbe3589dcdf", func := "example.com/bellwether/bellwether/zzlaws_internal_catalog_b1.FnHeldCountThenUncountRestores", spec := "fnHeldCountThenUncountRestores", apart := false }
def FnHeldCountThenUncountRestoresSaid : Prop := fnHeldCountThenUncountRestoresRow.holds Try.pinned (OpenSpec.ofChange fnHeldCountThenUncountRestoresSpec)

/-- ITS FALSE NEIGHBOUR: 'it returns false'. Refute it at one input. -/
def fnHeldCountThenUncountRestoresWrong : ChangeSpec := { name := "fnHeldCountThenUncountRestores", fn := fun _ => fun
  | [d1, d2, d3, d4, d5, d6, d7, d8] => { results := [.lit (.bool false)], args := [d1, d2, d3, d4, d5, d6, d7, d8] }
  | _ => none }
def FnHeldCountThenUncountRestoresWrongFalsely : Prop := fnHeldCountThenUncountRestoresRow.holds Try.pinned (OpenSpec.ofChange fnHeldCountThenUncountRestoresWrong)

end Rows
end Go.Proofs.Qxb6603051a
