/-
  No cell of these rows narrows 'for every input' (looked for: loops, veiled, ifaces, maps, wideKeys, modest, calm, conditions, laid).
  DERIVED. THE GIVEN ROWS OF THIS SEAT. 4 by the template 'for every input the law returns true; each argument reads behind the call as it read before'; 0 by the template 'total and deterministic' (their statements: Qxb6616825aTotals.lean).
  GIVEN WITH THE SEED: the statements are not yours to turn. If you find one false, say at which input.
  Laid BY PROGRAM, IN A SANDBOX (cutbox-rows.mjs): the forced cells as the released guide's own fill.sh prints them over the translation ea1fdd3a177cd93e… (all of the seat's roots in one cut). By AI agents, Wed Nov 11 2026. No macro, syntax, notation, axiom, sorry.
-/
import Derived.Test.Qxb6616825aChecked
import GoSem.Claim
import GoSem.ClaimJoined
import GoSem.ClaimMapViews
import Derived.JoinedTies
import Derived.KernelRfl
namespace Go.Proofs.Qxb6616825a
/- THE CELL 'sum', in the pinned program and in every row, IS THE sha256 OF THE DUMP (.gsa) THAT Qxb6616825aProg.lean LOADS. Nothing in Lean hashes anything: it is a label: what it is worth is what the hold of that sum in a sandbox is worth. -/
noncomputable def Try.pinned : Pinned := { name := "qxb6616825a", sum := "ea1fdd3a177cd93e8fbf3abf6bcc379c59c6bb6c76be619f16cb0b914a927759", checked := Try.checked }
namespace Rows
def none {H : Type} : Left H := { results := [], args := [] }

/-- 'zzlaws_broker_b1.FnNewProgressAdditiveAtAnyCut': WHATEVER THE INPUT: true; the input reads as it did. -/
def fnNewProgressAdditiveAtAnyCutSpec : ChangeSpec := { name := "fnNewProgressAdditiveAtAnyCut", fn := fun _ => fun
  | [d1, d2, d3] => { results := [.lit (.bool true)], args := [d1, d2, d3] }
  | _ => none }
def fnNewProgressAdditiveAtAnyCutRow : OpenClaim := { program := "qxb6616825a", sum := "ea1fdd3a177cd93e8fbf3abf6bcc379c59c6bb6c76be619f16cb0b914a927759", func := "example.com/holdfast/holdfast/zzlaws_broker_b1.FnNewProgressAdditiveAtAnyCut", spec := "fnNewProgressAdditiveAtAnyCut", apart := false }
def FnNewProgressAdditiveAtAnyCutSaid : Prop := fnNewProgressAdditiveAtAnyCutRow.holds Try.pinned (OpenSpec.ofChange fnNewProgressAdditiveAtAnyCutSpec)

/-- ITS FALSE NEIGHBOUR: 'it returns false'. Refute it at one input. -/
def fnNewProgressAdditiveAtAnyCutWrong : ChangeSpec := { name := "fnNewProgressAdditiveAtAnyCut", fn := fun _ => fun
  | [d1, d2, d3] => { results := [.lit (.bool false)], args := [d1, d2, d3] }
  | _ => none }
def FnNewProgressAdditiveAtAnyCutWrongFalsely : Prop := fnNewProgressAdditiveAtAnyCutRow.holds Try.pinned (OpenSpec.ofChange fnNewProgressAdditiveAtAnyCutWrong)

/-- 'zzlaws_broker_b1.FnNewProgressFlipOneMovesAheadByOne': WHATEVER THE INPUT: true; the input reads as it did. -/
def fnNewProgressFlipOneMovesAheadByOneSpec : ChangeSpec := { name := "fnNewProgressFlipOneMovesAheadByOne", fn := fun _ => fun
  | [d1, d2, d3] => { results := [.lit (.bool true)], args := [d1, d2, d3] }
  | _ => none }
def fnNewProgressFlipOneMovesAheadByOneRow : OpenClaim := { program := "qxb6616825a", sum := "ea1fdd3a177cd93e8fbf3abf6bcc379c59c6bb6c76be619f16cb0b914a927759", func := "example.com/holdfast/holdfast/zzlaws_broker_b1.FnNewProgressFlipOneMovesAheadByOne", spec := "fnNewProgressFlipOneMovesAheadByOne", apart := false }
def FnNewProgressFlipOneMovesAheadByOneSaid : Prop := fnNewProgressFlipOneMovesAheadByOneRow.holds Try.pinned (OpenSpec.ofChange fnNewProgressFlipOneMovesAheadByOneSpec)

/-- ITS FALSE NEIGHBOUR: 'it returns false'. Refute it at one input. -/
def fnNewProgressFlipOneMovesAheadByOneWrong : ChangeSpec := { name := "fnNewProgressFlipOneMovesAheadByOne", fn := fun _ => fun
  | [d1, d2, d3] => { results := [.lit (.bool false)], args := [d1, d2, d3] }
  | _ => none }
def FnNewProgressFlipOneMovesAheadByOneWrongFalsely : Prop := fnNewProgressFlipOneMovesAheadByOneRow.holds Try.pinned (OpenSpec.ofChange fnNewProgressFlipOneMovesAheadByOneWrong)

/-- 'zzlaws_broker_b1.FnEntryKeptExactlyUpToItsOwnPos': WHATEVER THE INPUT: true; the input reads as it did. -/
def fnEntryKeptExactlyUpToItsOwnPosSpec : ChangeSpec := { name := "fnEntryKeptExactlyUpToItsOwnPos", fn := fun _ => fun
  | [d1, d2, d3, d4, d5, d6] => { results := [.lit (.bool true)], args := [d1, d2, d3, d4, d5, d6] }
  | _ => none }
def fnEntryKeptExactlyUpToItsOwnPosRow : OpenClaim := { program := "qxb6616825a", sum := "ea1fdd3a177cd93e8fbf3abf6bcc379c59c6bb6c76be619f16cb0b914a927759", func := "example.com/holdfast/holdfast/zzlaws_broker_b1.FnEntryKeptExactlyUpToItsOwnPos", spec := "fnEntryKeptExactlyUpToItsOwnPos", apart := false }
def FnEntryKeptExactlyUpToItsOwnPosSaid : Prop := fnEntryKeptExactlyUpToItsOwnPosRow.holds Try.pinned (OpenSpec.ofChange fnEntryKeptExactlyUpToItsOwnPosSpec)

/-- ITS FALSE NEIGHBOUR: 'it returns false'. Refute it at one input. -/
def fnEntryKeptExactlyUpToItsOwnPosWrong : ChangeSpec := { name := "fnEntryKeptExactlyUpToItsOwnPos", fn := fun _ => fun
  | [d1, d2, d3, d4, d5, d6] => { results := [.lit (.bool false)], args := [d1, d2, d3, d4, d5, d6] }
  | _ => none }
def FnEntryKeptExactlyUpToItsOwnPosWrongFalsely : Prop := fnEntryKeptExactlyUpToItsOwnPosRow.holds Try.pinned (OpenSpec.ofChange fnEntryKeptExactlyUpToItsOwnPosWrong)

/-- 'zzlaws_broker_b1.FnEntryKeptNeverLostByRaisingPosOrLoweringLow': WHATEVER THE INPUT: true; the input reads as it did. -/
def fnEntryKeptNeverLostByRaisingPosOrLoweringLowSpec : ChangeSpec := { name := "fnEntryKeptNeverLostByRaisingPosOrLoweringLow", fn := fun _ => fun
  | [d1, d2, d3, d4, d5, d6] => { results := [.lit (.bool true)], args := [d1, d2, d3, d4, d5, d6] }
  | _ => none }
def fnEntryKeptNeverLostByRaisingPosOrLoweringLowRow : OpenClaim := { program := "qxb6616825a", sum := "ea1fdd3a177cd93e8fbf3abf6bcc379c59c6bb6c76be619f16cb0b914a927759", func := "example.com/holdfast/holdfast/zzlaws_broker_b1.FnEntryKeptNeverLostByRaisingPosOrLoweringLow", spec := "fnEntryKeptNeverLostByRaisingPosOrLoweringLow", apart := false }
def FnEntryKeptNeverLostByRaisingPosOrLoweringLowSaid : Prop := fnEntryKeptNeverLostByRaisingPosOrLoweringLowRow.holds Try.pinned (OpenSpec.ofChange fnEntryKeptNeverLostByRaisingPosOrLoweringLowSpec)

/-- ITS FALSE NEIGHBOUR: 'it returns false'. Refute it at one input. -/
def fnEntryKeptNeverLostByRaisingPosOrLoweringLowWrong : ChangeSpec := { name := "fnEntryKeptNeverLostByRaisingPosOrLoweringLow", fn := fun _ => fun
  | [d1, d2, d3, d4, d5, d6] => { results := [.lit (.bool false)], args := [d1, d2, d3, d4, d5, d6] }
  | _ => none }
def FnEntryKeptNeverLostByRaisingPosOrLoweringLowWrongFalsely : Prop := fnEntryKeptNeverLostByRaisingPosOrLoweringLowRow.holds Try.pinned (OpenSpec.ofChange fnEntryKeptNeverLostByRaisingPosOrLoweringLowWrong)

end Rows
end Go.Proofs.Qxb6616825a
