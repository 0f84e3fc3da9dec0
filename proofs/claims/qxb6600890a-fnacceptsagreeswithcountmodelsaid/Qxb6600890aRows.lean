/-
  No cell of these rows narrows 'for every input' (looked for: loops, veiled, ifaces, maps, wideKeys, modest, calm, conditions, laid).
  DERIVED. THE GIVEN ROWS OF THIS SEAT. 9 by the template 'for every input the law returns true; each argument reads behind the call as it read before'; 0 by the template 'total and deterministic' (their statements: Qxb6600890aTotals.lean).
  GIVEN WITH THE SEED: the statements are not yours to turn. If you find one false, say at which input.
  Laid BY PROGRAM, IN A SANDBOX (cutbox-rows.mjs): the forced cells as the released guide's own fill.sh prints them over the translation 9054fa05aceb5056… (all of the seat's roots in one cut). By AI agents, Wed Nov 11 2026. No macro, syntax, notation, axiom, sorry.
-/
import Derived.Test.Qxb6600890aChecked
import GoSem.Claim
import GoSem.ClaimJoined
import GoSem.ClaimMapViews
import Derived.JoinedTies
import Derived.KernelRfl
namespace Go.Proofs.Qxb6600890a
/- THE CELL 'sum', in the pinned program and in every row, IS THE sha256 OF THE DUMP (.gsa) THAT Qxb6600890aProg.lean LOADS. Nothing in Lean hashes anything: it is a label: what it is worth is what the hold of that sum in a sandbox is worth. -/
noncomputable def Try.pinned : Pinned := { name := "qxb6600890a", sum := "9054fa05aceb505608ab5fe7d8ff95d976cb3c97a12df35f05f51e99a963cc43", checked := Try.checked }
namespace Rows
def none {H : Type} : Left H := { results := [], args := [] }

/-- 'zzlaws_internal_rules_b1.FnMatchAgreesWithAncestorWalk': WHATEVER THE INPUT: true; the input reads as it did. -/
def fnMatchAgreesWithAncestorWalkSpec : ChangeSpec := { name := "fnMatchAgreesWithAncestorWalk", fn := fun _ => fun
  | [d1, d2, d3] => { results := [.lit (.bool true)], args := [d1, d2, d3] }
  | _ => none }
def fnMatchAgreesWithAncestorWalkRow : OpenClaim := { program := "qxb6600890a", sum := "9054fa05aceb505608ab5fe7d8ff95d976cb3c97a12df35f05f51e99a963cc43", func := "example.com/inward-layers/inward-layers/zzlaws_internal_rules_b1.FnMatchAgreesWithAncestorWalk", spec := "fnMatchAgreesWithAncestorWalk", apart := false }
def FnMatchAgreesWithAncestorWalkSaid : Prop := fnMatchAgreesWithAncestorWalkRow.holds Try.pinned (OpenSpec.ofChange fnMatchAgreesWithAncestorWalkSpec)

/-- ITS FALSE NEIGHBOUR: 'it returns false'. Refute it at one input. -/
def fnMatchAgreesWithAncestorWalkWrong : ChangeSpec := { name := "fnMatchAgreesWithAncestorWalk", fn := fun _ => fun
  | [d1, d2, d3] => { results := [.lit (.bool false)], args := [d1, d2, d3] }
  | _ => none }
def FnMatchAgreesWithAncestorWalkWrongFalsely : Prop := fnMatchAgreesWithAncestorWalkRow.holds Try.pinned (OpenSpec.ofChange fnMatchAgreesWithAncestorWalkWrong)

/-- 'zzlaws_internal_rules_b1.FnMatchExactNamesOnlyBaseTreeWidensAndDescends': WHATEVER THE INPUT: true; the input reads as it did. -/
def fnMatchExactNamesOnlyBaseTreeWidensAndDescendsSpec : ChangeSpec := { name := "fnMatchExactNamesOnlyBaseTreeWidensAndDescends", fn := fun _ => fun
  | [d1, d2, d3] => { results := [.lit (.bool true)], args := [d1, d2, d3] }
  | _ => none }
def fnMatchExactNamesOnlyBaseTreeWidensAndDescendsRow : OpenClaim := { program := "qxb6600890a", sum := "9054fa05aceb505608ab5fe7d8ff95d976cb3c97a12df35f05f51e99a963cc43", func := "example.com/inward-layers/inward-layers/zzlaws_internal_rules_b1.FnMatchExactNamesOnlyBaseTreeWidensAndDescends", spec := "fnMatchExactNamesOnlyBaseTreeWidensAndDescends", apart := false }
def FnMatchExactNamesOnlyBaseTreeWidensAndDescendsSaid : Prop := fnMatchExactNamesOnlyBaseTreeWidensAndDescendsRow.holds Try.pinned (OpenSpec.ofChange fnMatchExactNamesOnlyBaseTreeWidensAndDescendsSpec)

/-- ITS FALSE NEIGHBOUR: 'it returns false'. Refute it at one input. -/
def fnMatchExactNamesOnlyBaseTreeWidensAndDescendsWrong : ChangeSpec := { name := "fnMatchExactNamesOnlyBaseTreeWidensAndDescends", fn := fun _ => fun
  | [d1, d2, d3] => { results := [.lit (.bool false)], args := [d1, d2, d3] }
  | _ => none }
def FnMatchExactNamesOnlyBaseTreeWidensAndDescendsWrongFalsely : Prop := fnMatchExactNamesOnlyBaseTreeWidensAndDescendsRow.holds Try.pinned (OpenSpec.ofChange fnMatchExactNamesOnlyBaseTreeWidensAndDescendsWrong)

/-- 'zzlaws_internal_rules_b1.FnMatchRefusesSiblingNames': WHATEVER THE INPUT: true; the input reads as it did. -/
def fnMatchRefusesSiblingNamesSpec : ChangeSpec := { name := "fnMatchRefusesSiblingNames", fn := fun _ => fun
  | [d1, d2, d3] => { results := [.lit (.bool true)], args := [d1, d2, d3] }
  | _ => none }
def fnMatchRefusesSiblingNamesRow : OpenClaim := { program := "qxb6600890a", sum := "9054fa05aceb505608ab5fe7d8ff95d976cb3c97a12df35f05f51e99a963cc43", func := "example.com/inward-layers/inward-layers/zzlaws_internal_rules_b1.FnMatchRefusesSiblingNames", spec := "fnMatchRefusesSiblingNames", apart := false }
def FnMatchRefusesSiblingNamesSaid : Prop := fnMatchRefusesSiblingNamesRow.holds Try.pinned (OpenSpec.ofChange fnMatchRefusesSiblingNamesSpec)

/-- ITS FALSE NEIGHBOUR: 'it returns false'. Refute it at one input. -/
def fnMatchRefusesSiblingNamesWrong : ChangeSpec := { name := "fnMatchRefusesSiblingNames", fn := fun _ => fun
  | [d1, d2, d3] => { results := [.lit (.bool false)], args := [d1, d2, d3] }
  | _ => none }
def FnMatchRefusesSiblingNamesWrongFalsely : Prop := fnMatchRefusesSiblingNamesRow.holds Try.pinned (OpenSpec.ofChange fnMatchRefusesSiblingNamesWrong)

/-- 'zzlaws_internal_rules_b1.FnUnitCutsOneElementBelowBase': WHATEVER THE INPUT: true; the input reads as it did. -/
def fnUnitCutsOneElementBelowBaseSpec : ChangeSpec := { name := "fnUnitCutsOneElementBelowBase", fn := fun _ => fun
  | [d1, d2, d3] => { results := [.lit (.bool true)], args := [d1, d2, d3] }
  | _ => none }
def fnUnitCutsOneElementBelowBaseRow : OpenClaim := { program := "qxb6600890a", sum := "9054fa05aceb505608ab5fe7d8ff95d976cb3c97a12df35f05f51e99a963cc43", func := "example.com/inward-layers/inward-layers/zzlaws_internal_rules_b1.FnUnitCutsOneElementBelowBase", spec := "fnUnitCutsOneElementBelowBase", inPlace := ["internal/bytealg.IndexByteString"], apart := false }
def FnUnitCutsOneElementBelowBaseSaid : Prop := fnUnitCutsOneElementBelowBaseRow.holds Try.pinned (OpenSpec.ofChange fnUnitCutsOneElementBelowBaseSpec)

/-- ITS FALSE NEIGHBOUR: 'it returns false'. Refute it at one input. -/
def fnUnitCutsOneElementBelowBaseWrong : ChangeSpec := { name := "fnUnitCutsOneElementBelowBase", fn := fun _ => fun
  | [d1, d2, d3] => { results := [.lit (.bool false)], args := [d1, d2, d3] }
  | _ => none }
def FnUnitCutsOneElementBelowBaseWrongFalsely : Prop := fnUnitCutsOneElementBelowBaseRow.holds Try.pinned (OpenSpec.ofChange fnUnitCutsOneElementBelowBaseWrong)

/-- 'zzlaws_internal_rules_b1.FnUnitIsNamedLeadingPartAndIdempotent': WHATEVER THE INPUT: true; the input reads as it did. -/
def fnUnitIsNamedLeadingPartAndIdempotentSpec : ChangeSpec := { name := "fnUnitIsNamedLeadingPartAndIdempotent", fn := fun _ => fun
  | [d1, d2, d3] => { results := [.lit (.bool true)], args := [d1, d2, d3] }
  | _ => none }
def fnUnitIsNamedLeadingPartAndIdempotentRow : OpenClaim := { program := "qxb6600890a", sum := "9054fa05aceb505608ab5fe7d8ff95d976cb3c97a12df35f05f51e99a963cc43", func := "example.com/inward-layers/inward-layers/zzlaws_internal_rules_b1.FnUnitIsNamedLeadingPartAndIdempotent", spec := "fnUnitIsNamedLeadingPartAndIdempotent", inPlace := ["internal/bytealg.IndexByteString"], apart := false }
def FnUnitIsNamedLeadingPartAndIdempotentSaid : Prop := fnUnitIsNamedLeadingPartAndIdempotentRow.holds Try.pinned (OpenSpec.ofChange fnUnitIsNamedLeadingPartAndIdempotentSpec)

/-- ITS FALSE NEIGHBOUR: 'it returns false'. Refute it at one input. -/
def fnUnitIsNamedLeadingPartAndIdempotentWrong : ChangeSpec := { name := "fnUnitIsNamedLeadingPartAndIdempotent", fn := fun _ => fun
  | [d1, d2, d3] => { results := [.lit (.bool false)], args := [d1, d2, d3] }
  | _ => none }
def FnUnitIsNamedLeadingPartAndIdempotentWrongFalsely : Prop := fnUnitIsNamedLeadingPartAndIdempotentRow.holds Try.pinned (OpenSpec.ofChange fnUnitIsNamedLeadingPartAndIdempotentWrong)

/-- 'zzlaws_internal_rules_b1.FnUnitStableUnderDescent': WHATEVER THE INPUT: true; the input reads as it did. -/
def fnUnitStableUnderDescentSpec : ChangeSpec := { name := "fnUnitStableUnderDescent", fn := fun _ => fun
  | [d1, d2, d3, d4] => { results := [.lit (.bool true)], args := [d1, d2, d3, d4] }
  | _ => none }
def fnUnitStableUnderDescentRow : OpenClaim := { program := "qxb6600890a", sum := "9054fa05aceb505608ab5fe7d8ff95d976cb3c97a12df35f05f51e99a963cc43", func := "example.com/inward-layers/inward-layers/zzlaws_internal_rules_b1.FnUnitStableUnderDescent", spec := "fnUnitStableUnderDescent", inPlace := ["internal/bytealg.IndexByteString"], apart := false }
def FnUnitStableUnderDescentSaid : Prop := fnUnitStableUnderDescentRow.holds Try.pinned (OpenSpec.ofChange fnUnitStableUnderDescentSpec)

/-- ITS FALSE NEIGHBOUR: 'it returns false'. Refute it at one input. -/
def fnUnitStableUnderDescentWrong : ChangeSpec := { name := "fnUnitStableUnderDescent", fn := fun _ => fun
  | [d1, d2, d3, d4] => { results := [.lit (.bool false)], args := [d1, d2, d3, d4] }
  | _ => none }
def FnUnitStableUnderDescentWrongFalsely : Prop := fnUnitStableUnderDescentRow.holds Try.pinned (OpenSpec.ofChange fnUnitStableUnderDescentWrong)

/-- 'zzlaws_internal_rules_b1.FnAcceptsAgreesWithCountModel': WHATEVER THE INPUT: true; the input reads as it did. -/
def fnAcceptsAgreesWithCountModelSpec : ChangeSpec := { name := "fnAcceptsAgreesWithCountModel", fn := fun _ => fun
  | [d1, d2, d3, d4] => { results := [.lit (.bool true)], args := [d1, d2, d3, d4] }
  | _ => none }
def fnAcceptsAgreesWithCountModelRow : OpenClaim := { program := "qxb6600890a", sum := "9054fa05aceb505608ab5fe7d8ff95d976cb3c97a12df35f05f51e99a963cc43", func := "example.com/inward-layers/inward-layers/zzlaws_internal_rules_b1.FnAcceptsAgreesWithCountModel", spec := "fnAcceptsAgreesWithCountModel", inPlace := ["internal/bytealg.IndexByteString", "internal/bytealg.IndexString"], named := ["internal/bytealg.MaxLen"], apart := false }
def FnAcceptsAgreesWithCountModelSaid : Prop := fnAcceptsAgreesWithCountModelRow.holds Try.pinned (OpenSpec.ofChange fnAcceptsAgreesWithCountModelSpec)

/-- ITS FALSE NEIGHBOUR: 'it returns false'. Refute it at one input. -/
def fnAcceptsAgreesWithCountModelWrong : ChangeSpec := { name := "fnAcceptsAgreesWithCountModel", fn := fun _ => fun
  | [d1, d2, d3, d4] => { results := [.lit (.bool false)], args := [d1, d2, d3, d4] }
  | _ => none }
def FnAcceptsAgreesWithCountModelWrongFalsely : Prop := fnAcceptsAgreesWithCountModelRow.holds Try.pinned (OpenSpec.ofChange fnAcceptsAgreesWithCountModelWrong)

/-- 'zzlaws_internal_rules_b1.FnAcceptsOrderFree': WHATEVER THE INPUT: true; the input reads as it did. -/
def fnAcceptsOrderFreeSpec : ChangeSpec := { name := "fnAcceptsOrderFree", fn := fun _ => fun
  | [d1, d2, d3, d4] => { results := [.lit (.bool true)], args := [d1, d2, d3, d4] }
  | _ => none }
def fnAcceptsOrderFreeRow : OpenClaim := { program := "qxb6600890a", sum := "9054fa05aceb505608ab5fe7d8ff95d976cb3c97a12df35f05f51e99a963cc43", func := "example.com/inward-layers/inward-layers/zzlaws_internal_rules_b1.FnAcceptsOrderFree", spec := "fnAcceptsOrderFree", inPlace := ["internal/bytealg.IndexByteString", "internal/bytealg.IndexString"], named := ["internal/bytealg.MaxLen"], apart := false }
def FnAcceptsOrderFreeSaid : Prop := fnAcceptsOrderFreeRow.holds Try.pinned (OpenSpec.ofChange fnAcceptsOrderFreeSpec)

/-- ITS FALSE NEIGHBOUR: 'it returns false'. Refute it at one input. -/
def fnAcceptsOrderFreeWrong : ChangeSpec := { name := "fnAcceptsOrderFree", fn := fun _ => fun
  | [d1, d2, d3, d4] => { results := [.lit (.bool false)], args := [d1, d2, d3, d4] }
  | _ => none }
def FnAcceptsOrderFreeWrongFalsely : Prop := fnAcceptsOrderFreeRow.holds Try.pinned (OpenSpec.ofChange fnAcceptsOrderFreeWrong)

/-- 'zzlaws_internal_rules_b1.FnAcceptsDenyRefusesExactlyItsNamesAllowOnlyWidens': WHATEVER THE INPUT: true; the input reads as it did. -/
def fnAcceptsDenyRefusesExactlyItsNamesAllowOnlyWidensSpec : ChangeSpec := { name := "fnAcceptsDenyRefusesExactlyItsNamesAllowOnlyWidens", fn := fun _ => fun
  | [d1, d2, d3, d4, d5] => { results := [.lit (.bool true)], args := [d1, d2, d3, d4, d5] }
  | _ => none }
def fnAcceptsDenyRefusesExactlyItsNamesAllowOnlyWidensRow : OpenClaim := { program := "qxb6600890a", sum := "9054fa05aceb505608ab5fe7d8ff95d976cb3c97a12df35f05f51e99a963cc43", func := "example.com/inward-layers/inward-layers/zzlaws_internal_rules_b1.FnAcceptsDenyRefusesExactlyItsNamesAllowOnlyWidens", spec := "fnAcceptsDenyRefusesExactlyItsNamesAllowOnlyWidens", inPlace := ["internal/bytealg.IndexByteString", "internal/bytealg.IndexString"], named := ["internal/bytealg.MaxLen"], apart := false }
def FnAcceptsDenyRefusesExactlyItsNamesAllowOnlyWidensSaid : Prop := fnAcceptsDenyRefusesExactlyItsNamesAllowOnlyWidensRow.holds Try.pinned (OpenSpec.ofChange fnAcceptsDenyRefusesExactlyItsNamesAllowOnlyWidensSpec)

/-- ITS FALSE NEIGHBOUR: 'it returns false'. Refute it at one input. -/
def fnAcceptsDenyRefusesExactlyItsNamesAllowOnlyWidensWrong : ChangeSpec := { name := "fnAcceptsDenyRefusesExactlyItsNamesAllowOnlyWidens", fn := fun _ => fun
  | [d1, d2, d3, d4, d5] => { results := [.lit (.bool false)], args := [d1, d2, d3, d4, d5] }
  | _ => none }
def FnAcceptsDenyRefusesExactlyItsNamesAllowOnlyWidensWrongFalsely : Prop := fnAcceptsDenyRefusesExactlyItsNamesAllowOnlyWidensRow.holds Try.pinned (OpenSpec.ofChange fnAcceptsDenyRefusesExactlyItsNamesAllowOnlyWidensWrong)

end Rows
end Go.Proofs.Qxb6600890a
