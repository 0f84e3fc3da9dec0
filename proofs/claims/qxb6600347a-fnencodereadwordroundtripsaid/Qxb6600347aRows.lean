/-
  No cell of these rows narrows 'for every input' (looked for: loops, veiled, ifaces, maps, wideKeys, modest, calm, conditions, laid).
  DERIVED. THE GIVEN ROWS OF THIS SEAT. 6 by the template 'for every input the law returns true; each argument reads behind the call as it read before'; 0 by the template 'total and deterministic' (their statements: Qxb6600347aTotals.lean).
  GIVEN WITH THE SEED: the statements are not yours to turn. If you find one false, say at which input.
  Laid BY PROGRAM, IN A SANDBOX (cutbox-rows.mjs): the forced cells as the released guide's own fill.sh prints them over the translation b8f711e3f72b6f09… (all of the seat's roots in one cut). By AI agents, Wed Nov 11 2026. No macro, syntax, notation, axiom, sorry.
-/
import Derived.Test.Qxb6600347aChecked
import GoSem.Claim
import GoSem.ClaimJoined
import GoSem.ClaimMapViews
import Derived.JoinedTies
import Derived.KernelRfl
namespace Go.Proofs.Qxb6600347a
/- THE CELL 'sum', in the pinned program and in every row, IS THE sha256 OF THE DUMP (.gsa) THAT Qxb6600347aProg.lean LOADS. Nothing in Lean hashes anything: it is a label: what it is worth is what the hold of that sum in a sandbox is worth. -/
noncomputable def Try.pinned : Pinned := { name := "qxb6600347a", sum := "b8f711e3f72b6f09b44426af149accb75da27a296cf3bb3978308232a838fe78", checked := Try.checked }
namespace Rows
def none {H : Type} : Left H := { results := [], args := [] }

/-- 'zzlaws_internal_proquint_b1.FnReadWordAcceptedReencodes': WHATEVER THE INPUT: true; the input reads as it did. -/
def fnReadWordAcceptedReencodesSpec : ChangeSpec := { name := "fnReadWordAcceptedReencodes", fn := fun _ => fun
  | [d] => { results := [.lit (.bool true)], args := [d] }
  | _ => none }
def fnReadWordAcceptedReencodesRow : OpenClaim := { program := "qxb6600347a", sum := "b8f711e3f72b6f09b44426af149accb75da27a296cf3bb3978308232a838fe78", func := "example.com/osier/osier/zzlaws_internal_proquint_b1.FnReadWordAcceptedReencodes", spec := "fnReadWordAcceptedReencodes", inPlace := ["internal/bytealg.IndexByteString"], apart := false }
def FnReadWordAcceptedReencodesSaid : Prop := fnReadWordAcceptedReencodesRow.holds Try.pinned (OpenSpec.ofChange fnReadWordAcceptedReencodesSpec)

/-- ITS FALSE NEIGHBOUR: 'it returns false'. Refute it at one input. -/
def fnReadWordAcceptedReencodesWrong : ChangeSpec := { name := "fnReadWordAcceptedReencodes", fn := fun _ => fun
  | [d] => { results := [.lit (.bool false)], args := [d] }
  | _ => none }
def FnReadWordAcceptedReencodesWrongFalsely : Prop := fnReadWordAcceptedReencodesRow.holds Try.pinned (OpenSpec.ofChange fnReadWordAcceptedReencodesWrong)

/-- 'zzlaws_internal_proquint_b1.FnAppendWordReadWordRoundTrip': WHATEVER THE INPUT: true; the input reads as it did. -/
def fnAppendWordReadWordRoundTripSpec : ChangeSpec := { name := "fnAppendWordReadWordRoundTrip", fn := fun _ => fun
  | [d] => { results := [.lit (.bool true)], args := [d] }
  | _ => none }
def fnAppendWordReadWordRoundTripRow : OpenClaim := { program := "qxb6600347a", sum := "b8f711e3f72b6f09b44426af149accb75da27a296cf3bb3978308232a838fe78", func := "example.com/osier/osier/zzlaws_internal_proquint_b1.FnAppendWordReadWordRoundTrip", spec := "fnAppendWordReadWordRoundTrip", inPlace := ["internal/bytealg.IndexByteString"], apart := false }
def FnAppendWordReadWordRoundTripSaid : Prop := fnAppendWordReadWordRoundTripRow.holds Try.pinned (OpenSpec.ofChange fnAppendWordReadWordRoundTripSpec)

/-- ITS FALSE NEIGHBOUR: 'it returns false'. Refute it at one input. -/
def fnAppendWordReadWordRoundTripWrong : ChangeSpec := { name := "fnAppendWordReadWordRoundTrip", fn := fun _ => fun
  | [d] => { results := [.lit (.bool false)], args := [d] }
  | _ => none }
def FnAppendWordReadWordRoundTripWrongFalsely : Prop := fnAppendWordReadWordRoundTripRow.holds Try.pinned (OpenSpec.ofChange fnAppendWordReadWordRoundTripWrong)

/-- 'zzlaws_internal_proquint_b1.FnAppendWordKeepsOrder': WHATEVER THE INPUT: true; the input reads as it did. -/
def fnAppendWordKeepsOrderSpec : ChangeSpec := { name := "fnAppendWordKeepsOrder", fn := fun _ => fun
  | [d1, d2] => { results := [.lit (.bool true)], args := [d1, d2] }
  | _ => none }
def fnAppendWordKeepsOrderRow : OpenClaim := { program := "qxb6600347a", sum := "b8f711e3f72b6f09b44426af149accb75da27a296cf3bb3978308232a838fe78", func := "example.com/osier/osier/zzlaws_internal_proquint_b1.FnAppendWordKeepsOrder", spec := "fnAppendWordKeepsOrder", apart := false }
def FnAppendWordKeepsOrderSaid : Prop := fnAppendWordKeepsOrderRow.holds Try.pinned (OpenSpec.ofChange fnAppendWordKeepsOrderSpec)

/-- ITS FALSE NEIGHBOUR: 'it returns false'. Refute it at one input. -/
def fnAppendWordKeepsOrderWrong : ChangeSpec := { name := "fnAppendWordKeepsOrder", fn := fun _ => fun
  | [d1, d2] => { results := [.lit (.bool false)], args := [d1, d2] }
  | _ => none }
def FnAppendWordKeepsOrderWrongFalsely : Prop := fnAppendWordKeepsOrderRow.holds Try.pinned (OpenSpec.ofChange fnAppendWordKeepsOrderWrong)

/-- 'zzlaws_internal_proquint_b1.FnEncodeMatchesModel': WHATEVER THE INPUT: true; the input reads as it did. -/
def fnEncodeMatchesModelSpec : ChangeSpec := { name := "fnEncodeMatchesModel", fn := fun _ => fun
  | [d] => { results := [.lit (.bool true)], args := [d] }
  | _ => none }
def fnEncodeMatchesModelRow : OpenClaim := { program := "qxb6600347a", sum := "b8f711e3f72b6f09b44426af149accb75da27a296cf3bb3978308232a838fe78", func := "example.com/osier/osier/zzlaws_internal_proquint_b1.FnEncodeMatchesModel", spec := "fnEncodeMatchesModel", apart := false }
def FnEncodeMatchesModelSaid : Prop := fnEncodeMatchesModelRow.holds Try.pinned (OpenSpec.ofChange fnEncodeMatchesModelSpec)

/-- ITS FALSE NEIGHBOUR: 'it returns false'. Refute it at one input. -/
def fnEncodeMatchesModelWrong : ChangeSpec := { name := "fnEncodeMatchesModel", fn := fun _ => fun
  | [d] => { results := [.lit (.bool false)], args := [d] }
  | _ => none }
def FnEncodeMatchesModelWrongFalsely : Prop := fnEncodeMatchesModelRow.holds Try.pinned (OpenSpec.ofChange fnEncodeMatchesModelWrong)

/-- 'zzlaws_internal_proquint_b1.FnEncodeReadWordRoundTrip': WHATEVER THE INPUT: true; the input reads as it did. -/
def fnEncodeReadWordRoundTripSpec : ChangeSpec := { name := "fnEncodeReadWordRoundTrip", fn := fun _ => fun
  | [d] => { results := [.lit (.bool true)], args := [d] }
  | _ => none }
def fnEncodeReadWordRoundTripRow : OpenClaim := { program := "qxb6600347a", sum := "b8f711e3f72b6f09b44426af149accb75da27a296cf3bb3978308232a838fe78", func := "example.com/osier/osier/zzlaws_internal_proquint_b1.FnEncodeReadWordRoundTrip", spec := "fnEncodeReadWordRoundTrip", inPlace := ["internal/bytealg.IndexByteString"], apart := false }
def FnEncodeReadWordRoundTripSaid : Prop := fnEncodeReadWordRoundTripRow.holds Try.pinned (OpenSpec.ofChange fnEncodeReadWordRoundTripSpec)

/-- ITS FALSE NEIGHBOUR: 'it returns false'. Refute it at one input. -/
def fnEncodeReadWordRoundTripWrong : ChangeSpec := { name := "fnEncodeReadWordRoundTrip", fn := fun _ => fun
  | [d] => { results := [.lit (.bool false)], args := [d] }
  | _ => none }
def FnEncodeReadWordRoundTripWrongFalsely : Prop := fnEncodeReadWordRoundTripRow.holds Try.pinned (OpenSpec.ofChange fnEncodeReadWordRoundTripWrong)

/-- 'zzlaws_internal_proquint_b1.FnEncodeJoinsHalves': WHATEVER THE INPUT: true; the input reads as it did. -/
def fnEncodeJoinsHalvesSpec : ChangeSpec := { name := "fnEncodeJoinsHalves", fn := fun _ => fun
  | [d1, d2] => { results := [.lit (.bool true)], args := [d1, d2] }
  | _ => none }
def fnEncodeJoinsHalvesRow : OpenClaim := { program := "qxb6600347a", sum := "b8f711e3f72b6f09b44426af149accb75da27a296cf3bb3978308232a838fe78", func := "example.com/osier/osier/zzlaws_internal_proquint_b1.FnEncodeJoinsHalves", spec := "fnEncodeJoinsHalves", apart := false }
def FnEncodeJoinsHalvesSaid : Prop := fnEncodeJoinsHalvesRow.holds Try.pinned (OpenSpec.ofChange fnEncodeJoinsHalvesSpec)

/-- ITS FALSE NEIGHBOUR: 'it returns false'. Refute it at one input. -/
def fnEncodeJoinsHalvesWrong : ChangeSpec := { name := "fnEncodeJoinsHalves", fn := fun _ => fun
  | [d1, d2] => { results := [.lit (.bool false)], args := [d1, d2] }
  | _ => none }
def FnEncodeJoinsHalvesWrongFalsely : Prop := fnEncodeJoinsHalvesRow.holds Try.pinned (OpenSpec.ofChange fnEncodeJoinsHalvesWrong)

end Rows
end Go.Proofs.Qxb6600347a
