/-
  No cell of these rows narrows 'for every input' (looked for: loops, veiled, ifaces, maps, wideKeys, modest, calm, conditions, laid).
  DERIVED. THE GIVEN ROWS OF THIS SEAT. 5 by the template 'for every input the law returns true; each argument reads behind the call as it read before'; 0 by the template 'total and deterministic' (their statements: Qxb6000847aTotals.lean).
  GIVEN WITH THE SEED: the statements are not yours to turn. If you find one false, say at which input.
  Laid BY PROGRAM, IN A SANDBOX (cutbox-rows.mjs): the forced cells as the released guide's own fill.sh prints them over the translation 089232592dd90d72… (all of the seat's roots in one cut). By AI agents, Wed Nov 11 2026. No macro, syntax, notation, axiom, sorry.
-/
import Derived.Test.Qxb6000847aChecked
import GoSem.Claim
import GoSem.ClaimJoined
import GoSem.ClaimMapViews
import Derived.JoinedTies
import Derived.KernelRfl
namespace Go.Proofs.Qxb6000847a
/- THE CELL 'sum', in the pinned program and in every row, IS THE sha256 OF THE DUMP (.gsa) THAT Qxb6000847aProg.lean LOADS. Nothing in Lean hashes anything: it is a label: what it is worth is what the hold of that sum in a sandbox is worth. -/
noncomputable def Try.pinned : Pinned := { name := "qxb6000847a", sum := "089232592dd90d7282912ea04db678c0f5cf43397ad65652372851083841fa84", checked := Try.checked }
namespace Rows
def none {H : Type} : Left H := { results := [], args := [] }

/-- 'zzlaws_root_b1.FnStepMasksClassifyEachStep': WHATEVER THE INPUT: true; the input reads as it did. -/
def fnStepMasksClassifyEachStepSpec : ChangeSpec := { name := "fnStepMasksClassifyEachStep", fn := fun _ => fun
  | [d1, d2] => { results := [.lit (.bool true)], args := [d1, d2] }
  | _ => none }
def fnStepMasksClassifyEachStepRow : OpenClaim := { program := "qxb6000847a", sum := "089232592dd90d7282912ea04db678c0f5cf43397ad65652372851083841fa84", func := "example.com/pemilik/pemilik/zzlaws_root_b1.FnStepMasksClassifyEachStep", spec := "fnStepMasksClassifyEachStep", recurses := true, apart := false }
def FnStepMasksClassifyEachStepSaid : Prop := fnStepMasksClassifyEachStepRow.holds Try.pinned (OpenSpec.ofChange fnStepMasksClassifyEachStepSpec)

/-- ITS FALSE NEIGHBOUR: 'it returns false'. Refute it at one input. -/
def fnStepMasksClassifyEachStepWrong : ChangeSpec := { name := "fnStepMasksClassifyEachStep", fn := fun _ => fun
  | [d1, d2] => { results := [.lit (.bool false)], args := [d1, d2] }
  | _ => none }
def FnStepMasksClassifyEachStepWrongFalsely : Prop := fnStepMasksClassifyEachStepRow.holds Try.pinned (OpenSpec.ofChange fnStepMasksClassifyEachStepWrong)

/-- 'zzlaws_root_b1.FnStepMasksBarrierAndEndWords': WHATEVER THE INPUT: true; the input reads as it did. -/
def fnStepMasksBarrierAndEndWordsSpec : ChangeSpec := { name := "fnStepMasksBarrierAndEndWords", fn := fun _ => fun
  | [d1, d2] => { results := [.lit (.bool true)], args := [d1, d2] }
  | _ => none }
def fnStepMasksBarrierAndEndWordsRow : OpenClaim := { program := "qxb6000847a", sum := "089232592dd90d7282912ea04db678c0f5cf43397ad65652372851083841fa84", func := "example.com/pemilik/pemilik/zzlaws_root_b1.FnStepMasksBarrierAndEndWords", spec := "fnStepMasksBarrierAndEndWords", recurses := true, apart := false }
def FnStepMasksBarrierAndEndWordsSaid : Prop := fnStepMasksBarrierAndEndWordsRow.holds Try.pinned (OpenSpec.ofChange fnStepMasksBarrierAndEndWordsSpec)

/-- ITS FALSE NEIGHBOUR: 'it returns false'. Refute it at one input. -/
def fnStepMasksBarrierAndEndWordsWrong : ChangeSpec := { name := "fnStepMasksBarrierAndEndWords", fn := fun _ => fun
  | [d1, d2] => { results := [.lit (.bool false)], args := [d1, d2] }
  | _ => none }
def FnStepMasksBarrierAndEndWordsWrongFalsely : Prop := fnStepMasksBarrierAndEndWordsRow.holds Try.pinned (OpenSpec.ofChange fnStepMasksBarrierAndEndWordsWrong)

/-- 'zzlaws_root_b1.FnStepMasksCharsPartitionCharSteps': WHATEVER THE INPUT: true; the input reads as it did. -/
def fnStepMasksCharsPartitionCharStepsSpec : ChangeSpec := { name := "fnStepMasksCharsPartitionCharSteps", fn := fun _ => fun
  | [d1, d2] => { results := [.lit (.bool true)], args := [d1, d2] }
  | _ => none }
def fnStepMasksCharsPartitionCharStepsRow : OpenClaim := { program := "qxb6000847a", sum := "089232592dd90d7282912ea04db678c0f5cf43397ad65652372851083841fa84", func := "example.com/pemilik/pemilik/zzlaws_root_b1.FnStepMasksCharsPartitionCharSteps", spec := "fnStepMasksCharsPartitionCharSteps", recurses := true, apart := false }
def FnStepMasksCharsPartitionCharStepsSaid : Prop := fnStepMasksCharsPartitionCharStepsRow.holds Try.pinned (OpenSpec.ofChange fnStepMasksCharsPartitionCharStepsSpec)

/-- ITS FALSE NEIGHBOUR: 'it returns false'. Refute it at one input. -/
def fnStepMasksCharsPartitionCharStepsWrong : ChangeSpec := { name := "fnStepMasksCharsPartitionCharSteps", fn := fun _ => fun
  | [d1, d2] => { results := [.lit (.bool false)], args := [d1, d2] }
  | _ => none }
def FnStepMasksCharsPartitionCharStepsWrongFalsely : Prop := fnStepMasksCharsPartitionCharStepsRow.holds Try.pinned (OpenSpec.ofChange fnStepMasksCharsPartitionCharStepsWrong)

/-- 'zzlaws_root_b1.FnPruneDropsExactlyTheOvertakenSteps': WHATEVER THE INPUT: true; the input reads as it did. -/
def fnPruneDropsExactlyTheOvertakenStepsSpec : ChangeSpec := { name := "fnPruneDropsExactlyTheOvertakenSteps", fn := fun _ => fun
  | [d1, d2, d3, d4] => { results := [.lit (.bool true)], args := [d1, d2, d3, d4] }
  | _ => none }
def fnPruneDropsExactlyTheOvertakenStepsRow : OpenClaim := { program := "qxb6000847a", sum := "089232592dd90d7282912ea04db678c0f5cf43397ad65652372851083841fa84", func := "example.com/pemilik/pemilik/zzlaws_root_b1.FnPruneDropsExactlyTheOvertakenSteps", spec := "fnPruneDropsExactlyTheOvertakenSteps", recurses := true, apart := false }
def FnPruneDropsExactlyTheOvertakenStepsSaid : Prop := fnPruneDropsExactlyTheOvertakenStepsRow.holds Try.pinned (OpenSpec.ofChange fnPruneDropsExactlyTheOvertakenStepsSpec)

/-- ITS FALSE NEIGHBOUR: 'it returns false'. Refute it at one input. -/
def fnPruneDropsExactlyTheOvertakenStepsWrong : ChangeSpec := { name := "fnPruneDropsExactlyTheOvertakenSteps", fn := fun _ => fun
  | [d1, d2, d3, d4] => { results := [.lit (.bool false)], args := [d1, d2, d3, d4] }
  | _ => none }
def FnPruneDropsExactlyTheOvertakenStepsWrongFalsely : Prop := fnPruneDropsExactlyTheOvertakenStepsRow.holds Try.pinned (OpenSpec.ofChange fnPruneDropsExactlyTheOvertakenStepsWrong)

/-- 'zzlaws_root_b1.FnPruneIsIdempotent': WHATEVER THE INPUT: true; the input reads as it did. -/
def fnPruneIsIdempotentSpec : ChangeSpec := { name := "fnPruneIsIdempotent", fn := fun _ => fun
  | [d1, d2, d3, d4] => { results := [.lit (.bool true)], args := [d1, d2, d3, d4] }
  | _ => none }
def fnPruneIsIdempotentRow : OpenClaim := { program := "qxb6000847a", sum := "089232592dd90d7282912ea04db678c0f5cf43397ad65652372851083841fa84", func := "example.com/pemilik/pemilik/zzlaws_root_b1.FnPruneIsIdempotent", spec := "fnPruneIsIdempotent", recurses := true, apart := false }
def FnPruneIsIdempotentSaid : Prop := fnPruneIsIdempotentRow.holds Try.pinned (OpenSpec.ofChange fnPruneIsIdempotentSpec)

/-- ITS FALSE NEIGHBOUR: 'it returns false'. Refute it at one input. -/
def fnPruneIsIdempotentWrong : ChangeSpec := { name := "fnPruneIsIdempotent", fn := fun _ => fun
  | [d1, d2, d3, d4] => { results := [.lit (.bool false)], args := [d1, d2, d3, d4] }
  | _ => none }
def FnPruneIsIdempotentWrongFalsely : Prop := fnPruneIsIdempotentRow.holds Try.pinned (OpenSpec.ofChange fnPruneIsIdempotentWrong)

end Rows
end Go.Proofs.Qxb6000847a
