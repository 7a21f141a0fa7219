/-
  No cell of these rows narrows 'for every input' (looked for: loops, veiled, ifaces, maps, wideKeys, modest, calm, conditions, laid).
  DERIVED. THE GIVEN ROWS OF THIS SEAT. 3 by the template 'for every input the law returns true; each argument reads behind the call as it read before'; 0 by the template 'total and deterministic' (their statements: Qxb6605726aTotals.lean).
  GIVEN WITH THE SEED: the statements are not yours to turn. If you find one false, say at which input.
  Laid BY PROGRAM, IN A SANDBOX (cutbox-rows.mjs): the forced cells as the released guide's own fill.sh prints them over the translation 3c664ce6d5af8dc3… (all of the seat's roots in one cut). By AI agents, Wed Nov 11 2026. No macro, syntax, notation, axiom, sorry.
-/
import Derived.Test.Qxb6605726aChecked
import GoSem.Claim
import GoSem.ClaimJoined
import GoSem.ClaimMapViews
import Derived.JoinedTies
import Derived.KernelRfl
namespace Go.Proofs.Qxb6605726a
/- THE CELL 'sum', in the pinned program and in every row, IS THE sha256 OF THE DUMP (.gsa) THAT Qxb6605726aProg.lean LOADS. Nothing in Lean hashes anything: it is a label: what it is worth is what the hold of that sum in a sandbox is worth. -/
noncomputable def Try.pinned : Pinned := { name := "qxb6605726a", sum := "3c664ce6d5af8dc32dcb541a0b67d1ca02e4aa1f9c373267bcbeb8347e0951a8", checked := Try.checked }
namespace Rows
def none {H : Type} : Left H := { results := [], args := [] }

/-- 'zzlaws_root_b1.FnWeakMatchIsAnEquivalenceBlindToWeakness': WHATEVER THE INPUT: true; the input reads as it did. -/
def fnWeakMatchIsAnEquivalenceBlindToWeaknessSpec : ChangeSpec := { name := "fnWeakMatchIsAnEquivalenceBlindToWeakness", fn := fun _ => fun
  | [d1, d2, d3, d4, d5, d6] => { results := [.lit (.bool true)], args := [d1, d2, d3, d4, d5, d6] }
  | _ => none }
def fnWeakMatchIsAnEquivalenceBlindToWeaknessRow : OpenClaim := { program := "qxb6605726a", sum := "3c664ce6d5af8dc32dcb541a0b67d1ca02e4aa1f9c373267bcbeb8347e0951a8", func := "etchmark.example/etchmark/zzlaws_root_b1.FnWeakMatchIsAnEquivalenceBlindToWeakness", spec := "fnWeakMatchIsAnEquivalenceBlindToWeakness", apart := false }
def FnWeakMatchIsAnEquivalenceBlindToWeaknessSaid : Prop := fnWeakMatchIsAnEquivalenceBlindToWeaknessRow.holds Try.pinned (OpenSpec.ofChange fnWeakMatchIsAnEquivalenceBlindToWeaknessSpec)

/-- ITS FALSE NEIGHBOUR: 'it returns false'. Refute it at one input. -/
def fnWeakMatchIsAnEquivalenceBlindToWeaknessWrong : ChangeSpec := { name := "fnWeakMatchIsAnEquivalenceBlindToWeakness", fn := fun _ => fun
  | [d1, d2, d3, d4, d5, d6] => { results := [.lit (.bool false)], args := [d1, d2, d3, d4, d5, d6] }
  | _ => none }
def FnWeakMatchIsAnEquivalenceBlindToWeaknessWrongFalsely : Prop := fnWeakMatchIsAnEquivalenceBlindToWeaknessRow.holds Try.pinned (OpenSpec.ofChange fnWeakMatchIsAnEquivalenceBlindToWeaknessWrong)

/-- 'zzlaws_root_b1.FnRestoreMakesHeaderTheSnapshot': WHATEVER THE INPUT: true; the input reads as it did. -/
def fnRestoreMakesHeaderTheSnapshotSpec : ChangeSpec := { name := "fnRestoreMakesHeaderTheSnapshot", fn := fun _ => fun
  | [d1, d2, d3, d4] => { results := [.lit (.bool true)], args := [d1, d2, d3, d4] }
  | _ => none }
def fnRestoreMakesHeaderTheSnapshotRow : OpenClaim := { program := "qxb6605726a", sum := "3c664ce6d5af8dc32dcb541a0b67d1ca02e4aa1f9c373267bcbeb8347e0951a8", func := "etchmark.example/etchmark/zzlaws_root_b1.FnRestoreMakesHeaderTheSnapshot", spec := "fnRestoreMakesHeaderTheSnapshot", apart := false }
def FnRestoreMakesHeaderTheSnapshotSaid : Prop := fnRestoreMakesHeaderTheSnapshotRow.holds Try.pinned (OpenSpec.ofChange fnRestoreMakesHeaderTheSnapshotSpec)

/-- ITS FALSE NEIGHBOUR: 'it returns false'. Refute it at one input. -/
def fnRestoreMakesHeaderTheSnapshotWrong : ChangeSpec := { name := "fnRestoreMakesHeaderTheSnapshot", fn := fun _ => fun
  | [d1, d2, d3, d4] => { results := [.lit (.bool false)], args := [d1, d2, d3, d4] }
  | _ => none }
def FnRestoreMakesHeaderTheSnapshotWrongFalsely : Prop := fnRestoreMakesHeaderTheSnapshotRow.holds Try.pinned (OpenSpec.ofChange fnRestoreMakesHeaderTheSnapshotWrong)

/-- 'zzlaws_root_b1.FnRestoreUndoesLaterChanges': WHATEVER THE INPUT: true; the input reads as it did. -/
def fnRestoreUndoesLaterChangesSpec : ChangeSpec := { name := "fnRestoreUndoesLaterChanges", fn := fun _ => fun
  | [d1, d2, d3] => { results := [.lit (.bool true)], args := [d1, d2, d3] }
  | _ => none }
def fnRestoreUndoesLaterChangesRow : OpenClaim := { program := "qxb6605726a", sum := "3c664ce6d5af8dc32dcb541a0b67d1ca02e4aa1f9c373267bcbeb8347e0951a8", func := "etchmark.example/etchmark/zzlaws_root_b1.FnRestoreUndoesLaterChanges", spec := "fnRestoreUndoesLaterChanges", apart := false }
def FnRestoreUndoesLaterChangesSaid : Prop := fnRestoreUndoesLaterChangesRow.holds Try.pinned (OpenSpec.ofChange fnRestoreUndoesLaterChangesSpec)

/-- ITS FALSE NEIGHBOUR: 'it returns false'. Refute it at one input. -/
def fnRestoreUndoesLaterChangesWrong : ChangeSpec := { name := "fnRestoreUndoesLaterChanges", fn := fun _ => fun
  | [d1, d2, d3] => { results := [.lit (.bool false)], args := [d1, d2, d3] }
  | _ => none }
def FnRestoreUndoesLaterChangesWrongFalsely : Prop := fnRestoreUndoesLaterChangesRow.holds Try.pinned (OpenSpec.ofChange fnRestoreUndoesLaterChangesWrong)

end Rows
end Go.Proofs.Qxb6605726a
