/-
  No cell of these rows narrows 'for every input' (looked for: loops, veiled, ifaces, maps, wideKeys, modest, calm, conditions, laid).
  DERIVED. THE GIVEN ROWS OF THIS SEAT. 3 by the template 'for every input the law returns true; each argument reads behind the call as it read before'; 0 by the template 'total and deterministic' (their statements: Qxb6600400aTotals.lean).
  GIVEN WITH THE SEED: the statements are not yours to turn. If you find one false, say at which input.
  Laid BY PROGRAM, IN A SANDBOX (cutbox-rows.mjs): the forced cells as the released guide's own fill.sh prints them over the translation 15c9e0874c34aae7… (all of the seat's roots in one cut). By AI agents, Wed Nov 11 2026. No macro, syntax, notation, axiom, sorry.
-/
import Derived.Test.Qxb6600400aChecked
import GoSem.Claim
import GoSem.ClaimJoined
import GoSem.ClaimMapViews
import Derived.JoinedTies
import Derived.KernelRfl
namespace Go.Proofs.Qxb6600400a
/- THE CELL 'sum', in the pinned program and in every row, IS THE sha256 OF THE DUMP (.gsa) THAT Qxb6600400aProg.lean LOADS. Nothing in Lean hashes anything: it is a label: what it is worth is what the hold of that sum in a sandbox is worth. -/
noncomputable def Try.pinned : Pinned := { name := "qxb6600400a", sum := "15c9e0874c34aae7747b404da9935f2598c6ce3051560fd64ed9f8ce3e3aac6b", checked := Try.checked }
namespace Rows
def none {H : Type} : Left H := { results := [], args := [] }

/-- 'zzlaws_internal_node_b1.FnPageWritesMatchGreedyModel': WHATEVER THE INPUT: true; the input reads as it did. -/
def fnPageWritesMatchGreedyModelSpec : ChangeSpec := { name := "fnPageWritesMatchGreedyModel", fn := fun _ => fun
  | [d1, d2] => { results := [.lit (.bool true)], args := [d1, d2] }
  | _ => none }
def fnPageWritesMatchGreedyModelRow : OpenClaim := { program := "qxb6600400a", sum := "15c9e0874c34aae7747b404da9935f2598c6ce3051560fd64ed9f8ce3e3aac6b", func := "example.com/ordinal/ordinal/zzlaws_internal_node_b1.FnPageWritesMatchGreedyModel", spec := "fnPageWritesMatchGreedyModel", inPlace := ["internal/bytealg.IndexByte"], unfollowed := true, recurses := true, apart := false }
def FnPageWritesMatchGreedyModelSaid : Prop := fnPageWritesMatchGreedyModelRow.holds Try.pinned (OpenSpec.ofChange fnPageWritesMatchGreedyModelSpec)

/-- ITS FALSE NEIGHBOUR: 'it returns false'. Refute it at one input. -/
def fnPageWritesMatchGreedyModelWrong : ChangeSpec := { name := "fnPageWritesMatchGreedyModel", fn := fun _ => fun
  | [d1, d2] => { results := [.lit (.bool false)], args := [d1, d2] }
  | _ => none }
def FnPageWritesMatchGreedyModelWrongFalsely : Prop := fnPageWritesMatchGreedyModelRow.holds Try.pinned (OpenSpec.ofChange fnPageWritesMatchGreedyModelWrong)

/-- 'zzlaws_internal_node_b1.FnPageWritesCutsAreLineAlignedAndPageBound': WHATEVER THE INPUT: true; the input reads as it did. -/
def fnPageWritesCutsAreLineAlignedAndPageBoundSpec : ChangeSpec := { name := "fnPageWritesCutsAreLineAlignedAndPageBound", fn := fun _ => fun
  | [d1, d2] => { results := [.lit (.bool true)], args := [d1, d2] }
  | _ => none }
def fnPageWritesCutsAreLineAlignedAndPageBoundRow : OpenClaim := { program := "qxb6600400a", sum := "15c9e0874c34aae7747b404da9935f2598c6ce3051560fd64ed9f8ce3e3aac6b", func := "example.com/ordinal/ordinal/zzlaws_internal_node_b1.FnPageWritesCutsAreLineAlignedAndPageBound", spec := "fnPageWritesCutsAreLineAlignedAndPageBound", inPlace := ["internal/bytealg.IndexByte"], unfollowed := true, recurses := true, apart := false }
def FnPageWritesCutsAreLineAlignedAndPageBoundSaid : Prop := fnPageWritesCutsAreLineAlignedAndPageBoundRow.holds Try.pinned (OpenSpec.ofChange fnPageWritesCutsAreLineAlignedAndPageBoundSpec)

/-- ITS FALSE NEIGHBOUR: 'it returns false'. Refute it at one input. -/
def fnPageWritesCutsAreLineAlignedAndPageBoundWrong : ChangeSpec := { name := "fnPageWritesCutsAreLineAlignedAndPageBound", fn := fun _ => fun
  | [d1, d2] => { results := [.lit (.bool false)], args := [d1, d2] }
  | _ => none }
def FnPageWritesCutsAreLineAlignedAndPageBoundWrongFalsely : Prop := fnPageWritesCutsAreLineAlignedAndPageBoundRow.holds Try.pinned (OpenSpec.ofChange fnPageWritesCutsAreLineAlignedAndPageBoundWrong)

/-- 'zzlaws_internal_node_b1.FnPageWritesSameCutsWholePagesLater': WHATEVER THE INPUT: true; the input reads as it did. -/
def fnPageWritesSameCutsWholePagesLaterSpec : ChangeSpec := { name := "fnPageWritesSameCutsWholePagesLater", fn := fun _ => fun
  | [d1, d2, d3] => { results := [.lit (.bool true)], args := [d1, d2, d3] }
  | _ => none }
def fnPageWritesSameCutsWholePagesLaterRow : OpenClaim := { program := "qxb6600400a", sum := "15c9e0874c34aae7747b404da9935f2598c6ce3051560fd64ed9f8ce3e3aac6b", func := "example.com/ordinal/ordinal/zzlaws_internal_node_b1.FnPageWritesSameCutsWholePagesLater", spec := "fnPageWritesSameCutsWholePagesLater", inPlace := ["internal/bytealg.IndexByte"], unfollowed := true, recurses := true, apart := false }
def FnPageWritesSameCutsWholePagesLaterSaid : Prop := fnPageWritesSameCutsWholePagesLaterRow.holds Try.pinned (OpenSpec.ofChange fnPageWritesSameCutsWholePagesLaterSpec)

/-- ITS FALSE NEIGHBOUR: 'it returns false'. Refute it at one input. -/
def fnPageWritesSameCutsWholePagesLaterWrong : ChangeSpec := { name := "fnPageWritesSameCutsWholePagesLater", fn := fun _ => fun
  | [d1, d2, d3] => { results := [.lit (.bool false)], args := [d1, d2, d3] }
  | _ => none }
def FnPageWritesSameCutsWholePagesLaterWrongFalsely : Prop := fnPageWritesSameCutsWholePagesLaterRow.holds Try.pinned (OpenSpec.ofChange fnPageWritesSameCutsWholePagesLaterWrong)

end Rows
end Go.Proofs.Qxb6600400a
