/-
  No cell of these rows narrows 'for every input' (looked for: loops, veiled, ifaces, maps, wideKeys, modest, calm, conditions, laid).
  DERIVED. THE GIVEN ROWS OF THIS SEAT. 1 by the template 'for every input the law returns true; each argument reads behind the call as it read before'; 0 by the template 'total and deterministic' (their statements: Qxb6600775aTotals.lean).
  GIVEN WITH THE SEED: the statements are not yours to turn. If you find one false, say at which input.
  Laid BY PROGRAM, IN A SANDBOX (cutbox-rows.mjs): the forced cells as the released guide's own fill.sh prints them over the translation 254676d5e1144fb8… (all of the seat's roots in one cut). By AI agents, Wed Nov 11 2026. No macro, syntax, notation, axiom, sorry.
-/
import Derived.Test.Qxb6600775aChecked
import GoSem.Claim
import GoSem.ClaimJoined
import GoSem.ClaimMapViews
import Derived.JoinedTies
import Derived.KernelRfl
namespace Go.Proofs.Qxb6600775a
/- THE CELL 'sum', in the pinned program and in every row, IS THE sha256 OF THE DUMP (.gsa) THAT Qxb6600775aProg.lean LOADS. Nothing in Lean hashes anything: it is a label: what it is worth is what the hold of that sum in a sandbox is worth. -/
noncomputable def Try.pinned : Pinned := { name := "qxb6600775a", sum := "254676d5e1144fb8472f60c45350cbe1d357f522c9acc5ca93303eddf96399ca", checked := Try.checked }
namespace Rows
def none {H : Type} : Left H := { results := [], args := [] }

/-- 'zzlaws_internal_proto_b1.FnReplyErrorSplitsFirstLine': WHATEVER THE INPUT: true; the input reads as it did. -/
def fnReplyErrorSplitsFirstLineSpec : ChangeSpec := { name := "fnReplyErrorSplitsFirstLine", fn := fun _ => fun
  | [d] => { results := [.lit (.bool true)], args := [d] }
  | _ => none }
def fnReplyErrorSplitsFirstLineRow : OpenClaim := { program := "qxb6600775a", sum := "254676d5e1144fb8472f60c45350cbe1d357f522c9acc5ca93303eddf96399ca", func := "example.com/hearsay/hearsay/zzlaws_internal_proto_b1.FnReplyErrorSplitsFirstLine", spec := "fnReplyErrorSplitsFirstLine", inPlace := ["internal/bytealg.IndexByteString", "internal/bytealg.IndexString"], named := ["internal/bytealg.MaxLen"], apart := false }
def FnReplyErrorSplitsFirstLineSaid : Prop := fnReplyErrorSplitsFirstLineRow.holds Try.pinned (OpenSpec.ofChange fnReplyErrorSplitsFirstLineSpec)

/-- ITS FALSE NEIGHBOUR: 'it returns false'. Refute it at one input. -/
def fnReplyErrorSplitsFirstLineWrong : ChangeSpec := { name := "fnReplyErrorSplitsFirstLine", fn := fun _ => fun
  | [d] => { results := [.lit (.bool false)], args := [d] }
  | _ => none }
def FnReplyErrorSplitsFirstLineWrongFalsely : Prop := fnReplyErrorSplitsFirstLineRow.holds Try.pinned (OpenSpec.ofChange fnReplyErrorSplitsFirstLineWrong)

end Rows
end Go.Proofs.Qxb6600775a
