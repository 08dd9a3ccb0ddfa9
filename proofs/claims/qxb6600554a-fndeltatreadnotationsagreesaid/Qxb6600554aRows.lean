/-
  No cell of these rows narrows 'for every input' (looked for: loops, veiled, ifaces, maps, wideKeys, modest, calm, conditions, laid).
  DERIVED. THE GIVEN ROWS OF THIS SEAT. 6 by the template 'for every input the law returns true; each argument reads behind the call as it read before'; 0 by the template 'total and deterministic' (their statements: Qxb6600554aTotals.lean).
  GIVEN WITH THE SEED: the statements are not yours to turn. If you find one false, say at which input.
  Laid BY PROGRAM, IN A SANDBOX (cutbox-rows.mjs): the forced cells as the released guide's own fill.sh prints them over the translation 5ae4fea648d36fa0… (all of the seat's roots in one cut). By AI agents, Wed Nov 11 2026. No macro, syntax, notation, axiom, sorry.
-/
import Derived.Test.Qxb6600554aChecked
import GoSem.Claim
import GoSem.ClaimJoined
import GoSem.ClaimMapViews
import Derived.JoinedTies
import Derived.KernelRfl
namespace Go.Proofs.Qxb6600554a
/- THE CELL 'sum', in the pinned program and in every row, IS THE sha256 OF THE DUMP (.gsa) THAT Qxb6600554aProg.lean LOADS. Nothing in Lean hashes anything: it is a label: what it is worth is what the hold of that sum in a sandbox is worth. -/
noncomputable def Try.pinned : Pinned := { name := "qxb6600554a", sum := "5ae4fea648d36fa009e0cc4c019d104c7763635b5a98d0e9472af08fc7af59ac", checked := Try.checked }
namespace Rows
def none {H : Type} : Left H := { results := [], args := [] }

/-- 'zzlaws_internal_krb5conf_b1.FnDeltatReadMatchesSplitModel': WHATEVER THE INPUT: true; the input reads as it did. -/
def fnDeltatReadMatchesSplitModelSpec : ChangeSpec := { name := "fnDeltatReadMatchesSplitModel", fn := fun _ => fun
  | [d] => { results := [.lit (.bool true)], args := [d] }
  | _ => none }
def fnDeltatReadMatchesSplitModelRow : OpenClaim := { program := "qxb6600554a", sum := "5ae4fea648d36fa009e0cc4c019d104c7763635b5a98d0e9472af08fc7af59ac", func := "example.com/ticketwire/ticketwire/zzlaws_internal_krb5conf_b1.FnDeltatReadMatchesSplitModel", spec := "fnDeltatReadMatchesSplitModel", inPlace := ["internal/bytealg.IndexByteString", "internal/bytealg.IndexString"], named := ["internal/bytealg.MaxLen"], apart := false }
def FnDeltatReadMatchesSplitModelSaid : Prop := fnDeltatReadMatchesSplitModelRow.holds Try.pinned (OpenSpec.ofChange fnDeltatReadMatchesSplitModelSpec)

/-- ITS FALSE NEIGHBOUR: 'it returns false'. Refute it at one input. -/
def fnDeltatReadMatchesSplitModelWrong : ChangeSpec := { name := "fnDeltatReadMatchesSplitModel", fn := fun _ => fun
  | [d] => { results := [.lit (.bool false)], args := [d] }
  | _ => none }
def FnDeltatReadMatchesSplitModelWrongFalsely : Prop := fnDeltatReadMatchesSplitModelRow.holds Try.pinned (OpenSpec.ofChange fnDeltatReadMatchesSplitModelWrong)

/-- 'zzlaws_internal_krb5conf_b1.FnDeltatReadNotationsAgree': WHATEVER THE INPUT: true; the input reads as it did. -/
def fnDeltatReadNotationsAgreeSpec : ChangeSpec := { name := "fnDeltatReadNotationsAgree", fn := fun _ => fun
  | [d1, d2, d3, d4] => { results := [.lit (.bool true)], args := [d1, d2, d3, d4] }
  | _ => none }
def fnDeltatReadNotationsAgreeRow : OpenClaim := { program := "qxb6600554a", sum := "5ae4fea648d36fa009e0cc4c019d104c7763635b5a98d0e9472af08fc7af59ac", func := "example.com/ticketwire/ticketwire/zzlaws_internal_krb5conf_b1.FnDeltatReadNotationsAgree", spec := "fnDeltatReadNotationsAgree", inPlace := ["internal/bytealg.IndexByteString", "internal/bytealg.IndexString"], named := ["internal/bytealg.MaxLen"], apart := false }
def FnDeltatReadNotationsAgreeSaid : Prop := fnDeltatReadNotationsAgreeRow.holds Try.pinned (OpenSpec.ofChange fnDeltatReadNotationsAgreeSpec)

/-- ITS FALSE NEIGHBOUR: 'it returns false'. Refute it at one input. -/
def fnDeltatReadNotationsAgreeWrong : ChangeSpec := { name := "fnDeltatReadNotationsAgree", fn := fun _ => fun
  | [d1, d2, d3, d4] => { results := [.lit (.bool false)], args := [d1, d2, d3, d4] }
  | _ => none }
def FnDeltatReadNotationsAgreeWrongFalsely : Prop := fnDeltatReadNotationsAgreeRow.holds Try.pinned (OpenSpec.ofChange fnDeltatReadNotationsAgreeWrong)

/-- 'zzlaws_internal_krb5conf_b1.FnDeltatUnitsMatchesSplitModel': WHATEVER THE INPUT: true; the input reads as it did. -/
def fnDeltatUnitsMatchesSplitModelSpec : ChangeSpec := { name := "fnDeltatUnitsMatchesSplitModel", fn := fun _ => fun
  | [d1, d2, d3, d4] => { results := [.lit (.bool true)], args := [d1, d2, d3, d4] }
  | _ => none }
def fnDeltatUnitsMatchesSplitModelRow : OpenClaim := { program := "qxb6600554a", sum := "5ae4fea648d36fa009e0cc4c019d104c7763635b5a98d0e9472af08fc7af59ac", func := "example.com/ticketwire/ticketwire/zzlaws_internal_krb5conf_b1.FnDeltatUnitsMatchesSplitModel", spec := "fnDeltatUnitsMatchesSplitModel", inPlace := ["internal/bytealg.IndexByteString", "internal/bytealg.IndexString"], named := ["internal/bytealg.MaxLen"], apart := false }
def FnDeltatUnitsMatchesSplitModelSaid : Prop := fnDeltatUnitsMatchesSplitModelRow.holds Try.pinned (OpenSpec.ofChange fnDeltatUnitsMatchesSplitModelSpec)

/-- ITS FALSE NEIGHBOUR: 'it returns false'. Refute it at one input. -/
def fnDeltatUnitsMatchesSplitModelWrong : ChangeSpec := { name := "fnDeltatUnitsMatchesSplitModel", fn := fun _ => fun
  | [d1, d2, d3, d4] => { results := [.lit (.bool false)], args := [d1, d2, d3, d4] }
  | _ => none }
def FnDeltatUnitsMatchesSplitModelWrongFalsely : Prop := fnDeltatUnitsMatchesSplitModelRow.holds Try.pinned (OpenSpec.ofChange fnDeltatUnitsMatchesSplitModelWrong)

/-- 'zzlaws_internal_krb5conf_b1.FnDeltatUnitsTotalOnlyAdds': WHATEVER THE INPUT: true; the input reads as it did. -/
def fnDeltatUnitsTotalOnlyAddsSpec : ChangeSpec := { name := "fnDeltatUnitsTotalOnlyAdds", fn := fun _ => fun
  | [d1, d2, d3, d4] => { results := [.lit (.bool true)], args := [d1, d2, d3, d4] }
  | _ => none }
def fnDeltatUnitsTotalOnlyAddsRow : OpenClaim := { program := "qxb6600554a", sum := "5ae4fea648d36fa009e0cc4c019d104c7763635b5a98d0e9472af08fc7af59ac", func := "example.com/ticketwire/ticketwire/zzlaws_internal_krb5conf_b1.FnDeltatUnitsTotalOnlyAdds", spec := "fnDeltatUnitsTotalOnlyAdds", inPlace := ["internal/bytealg.IndexByteString", "internal/bytealg.IndexString"], named := ["internal/bytealg.MaxLen"], apart := false }
def FnDeltatUnitsTotalOnlyAddsSaid : Prop := fnDeltatUnitsTotalOnlyAddsRow.holds Try.pinned (OpenSpec.ofChange fnDeltatUnitsTotalOnlyAddsSpec)

/-- ITS FALSE NEIGHBOUR: 'it returns false'. Refute it at one input. -/
def fnDeltatUnitsTotalOnlyAddsWrong : ChangeSpec := { name := "fnDeltatUnitsTotalOnlyAdds", fn := fun _ => fun
  | [d1, d2, d3, d4] => { results := [.lit (.bool false)], args := [d1, d2, d3, d4] }
  | _ => none }
def FnDeltatUnitsTotalOnlyAddsWrongFalsely : Prop := fnDeltatUnitsTotalOnlyAddsRow.holds Try.pinned (OpenSpec.ofChange fnDeltatUnitsTotalOnlyAddsWrong)

/-- 'zzlaws_internal_krb5conf_b1.FnProfileKeepFinalClosedForm': WHATEVER THE INPUT: true; the input reads as it did. -/
def fnProfileKeepFinalClosedFormSpec : ChangeSpec := { name := "fnProfileKeepFinalClosedForm", fn := fun _ => fun
  | [d1, d2, d3] => { results := [.lit (.bool true)], args := [d1, d2, d3] }
  | _ => none }
def fnProfileKeepFinalClosedFormRow : OpenClaim := { program := "qxb6600554a", sum := "5ae4fea648d36fa009e0cc4c019d104c7763635b5a98d0e9472af08fc7af59ac", func := "example.com/ticketwire/ticketwire/zzlaws_internal_krb5conf_b1.FnProfileKeepFinalClosedForm", spec := "fnProfileKeepFinalClosedForm", apart := false }
def FnProfileKeepFinalClosedFormSaid : Prop := fnProfileKeepFinalClosedFormRow.holds Try.pinned (OpenSpec.ofChange fnProfileKeepFinalClosedFormSpec)

/-- ITS FALSE NEIGHBOUR: 'it returns false'. Refute it at one input. -/
def fnProfileKeepFinalClosedFormWrong : ChangeSpec := { name := "fnProfileKeepFinalClosedForm", fn := fun _ => fun
  | [d1, d2, d3] => { results := [.lit (.bool false)], args := [d1, d2, d3] }
  | _ => none }
def FnProfileKeepFinalClosedFormWrongFalsely : Prop := fnProfileKeepFinalClosedFormRow.holds Try.pinned (OpenSpec.ofChange fnProfileKeepFinalClosedFormWrong)

/-- 'zzlaws_internal_krb5conf_b1.FnProfileKeepBlocksOncePerTag': WHATEVER THE INPUT: true; the input reads as it did. -/
def fnProfileKeepBlocksOncePerTagSpec : ChangeSpec := { name := "fnProfileKeepBlocksOncePerTag", fn := fun _ => fun
  | [d1, d2, d3] => { results := [.lit (.bool true)], args := [d1, d2, d3] }
  | _ => none }
def fnProfileKeepBlocksOncePerTagRow : OpenClaim := { program := "qxb6600554a", sum := "5ae4fea648d36fa009e0cc4c019d104c7763635b5a98d0e9472af08fc7af59ac", func := "example.com/ticketwire/ticketwire/zzlaws_internal_krb5conf_b1.FnProfileKeepBlocksOncePerTag", spec := "fnProfileKeepBlocksOncePerTag", apart := false }
def FnProfileKeepBlocksOncePerTagSaid : Prop := fnProfileKeepBlocksOncePerTagRow.holds Try.pinned (OpenSpec.ofChange fnProfileKeepBlocksOncePerTagSpec)

/-- ITS FALSE NEIGHBOUR: 'it returns false'. Refute it at one input. -/
def fnProfileKeepBlocksOncePerTagWrong : ChangeSpec := { name := "fnProfileKeepBlocksOncePerTag", fn := fun _ => fun
  | [d1, d2, d3] => { results := [.lit (.bool false)], args := [d1, d2, d3] }
  | _ => none }
def FnProfileKeepBlocksOncePerTagWrongFalsely : Prop := fnProfileKeepBlocksOncePerTagRow.holds Try.pinned (OpenSpec.ofChange fnProfileKeepBlocksOncePerTagWrong)

end Rows
end Go.Proofs.Qxb6600554a
