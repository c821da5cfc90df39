/-
  No cell of these rows narrows 'for every input' (looked for: loops, veiled, ifaces, maps, wideKeys, modest, calm, conditions, laid).
  DERIVED. THE GIVEN ROWS OF THIS SEAT. 2 by the template 'for every input the law returns true; each argument reads behind the call as it read before'; 0 by the template 'total and deterministic' (their statements: Qxb6618493aTotals.lean).
  GIVEN WITH THE SEED: the statements are not yours to turn. If you find one false, say at which input.
  Laid BY PROGRAM, IN A SANDBOX (cutbox-rows.mjs): the forced cells as the released guide's own fill.sh prints them over the translation 0a6982bd32ac3533… (all of the seat's roots in one cut). By AI agents, Wed Nov 11 2026. No macro, syntax, notation, axiom, sorry.
-/
import Derived.Test.Qxb6618493aChecked
import GoSem.Claim
import GoSem.ClaimJoined
import GoSem.ClaimMapViews
import Derived.JoinedTies
import Derived.KernelRfl
namespace Go.Proofs.Qxb6618493a
/- THE CELL 'sum', in the pinned program and in every row, IS THE sha256 OF THE DUMP (.gsa) THAT Qxb6618493aProg.lean LOADS. Nothing in Lean hashes anything: it is a label: what it is worth is what the hold of that sum in a sandbox is worth. -/
noncomputable def Try.pinned : Pinned := { name := "qxb6618493a", sum := "0a6982bd32ac3533ef6bb9d8ec1c1eeae8fc773571ff100f5ea11f0ddd5d4617", checked := Try.checked }
namespace Rows
def none {H : Type} : Left H := { results := [], args := [] }

/-- 'zzlaws_taskqueue_b1.FnNewPendingQueueFreshAndOneTrainer': WHATEVER THE INPUT: true; the input reads as it did. -/
def fnNewPendingQueueFreshAndOneTrainerSpec : ChangeSpec := { name := "fnNewPendingQueueFreshAndOneTrainer", fn := fun _ => fun
  | [d1, d2] => { results := [.lit (.bool true)], args := [d1, d2] }
  | _ => none }
def fnNewPendingQueueFreshAndOneTrainerRow : OpenClaim := { program := "qxb6618493a", sum := "0a6982bd32ac3533ef6bb9d8ec1c1eeae8fc773571ff100f5ea11f0ddd5d4617", func := "example.com/shardwright/shardwright/zzlaws_taskqueue_b1.FnNewPendingQueueFreshAndOneTrainer", spec := "fnNewPendingQueueFreshAndOneTrainer", inPlace := ["slices.overlaps[*example.com/shardwright/shardwright/taskqueue.trainerRecord]"], unfollowed := true, recurses := true, apart := false }
def FnNewPendingQueueFreshAndOneTrainerSaid : Prop := fnNewPendingQueueFreshAndOneTrainerRow.holds Try.pinned (OpenSpec.ofChange fnNewPendingQueueFreshAndOneTrainerSpec)

/-- ITS FALSE NEIGHBOUR: 'it returns false'. Refute it at one input. -/
def fnNewPendingQueueFreshAndOneTrainerWrong : ChangeSpec := { name := "fnNewPendingQueueFreshAndOneTrainer", fn := fun _ => fun
  | [d1, d2] => { results := [.lit (.bool false)], args := [d1, d2] }
  | _ => none }
def FnNewPendingQueueFreshAndOneTrainerWrongFalsely : Prop := fnNewPendingQueueFreshAndOneTrainerRow.holds Try.pinned (OpenSpec.ofChange fnNewPendingQueueFreshAndOneTrainerWrong)

/-- 'zzlaws_taskqueue_b1.FnNewPendingQueueTrainersInIDOrder': WHATEVER THE INPUT: true; the input reads as it did. -/
def fnNewPendingQueueTrainersInIDOrderSpec : ChangeSpec := { name := "fnNewPendingQueueTrainersInIDOrder", fn := fun _ => fun
  | [d1, d2] => { results := [.lit (.bool true)], args := [d1, d2] }
  | _ => none }
def fnNewPendingQueueTrainersInIDOrderRow : OpenClaim := { program := "qxb6618493a", sum := "0a6982bd32ac3533ef6bb9d8ec1c1eeae8fc773571ff100f5ea11f0ddd5d4617", func := "example.com/shardwright/shardwright/zzlaws_taskqueue_b1.FnNewPendingQueueTrainersInIDOrder", spec := "fnNewPendingQueueTrainersInIDOrder", inPlace := ["slices.overlaps[*example.com/shardwright/shardwright/taskqueue.trainerRecord]"], unfollowed := true, recurses := true, apart := false }
def FnNewPendingQueueTrainersInIDOrderSaid : Prop := fnNewPendingQueueTrainersInIDOrderRow.holds Try.pinned (OpenSpec.ofChange fnNewPendingQueueTrainersInIDOrderSpec)

/-- ITS FALSE NEIGHBOUR: 'it returns false'. Refute it at one input. -/
def fnNewPendingQueueTrainersInIDOrderWrong : ChangeSpec := { name := "fnNewPendingQueueTrainersInIDOrder", fn := fun _ => fun
  | [d1, d2] => { results := [.lit (.bool false)], args := [d1, d2] }
  | _ => none }
def FnNewPendingQueueTrainersInIDOrderWrongFalsely : Prop := fnNewPendingQueueTrainersInIDOrderRow.holds Try.pinned (OpenSpec.ofChange fnNewPendingQueueTrainersInIDOrderWrong)

end Rows
end Go.Proofs.Qxb6618493a
