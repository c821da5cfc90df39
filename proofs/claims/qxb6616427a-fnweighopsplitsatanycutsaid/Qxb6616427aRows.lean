/-
  No cell of these rows narrows 'for every input' (looked for: loops, veiled, ifaces, maps, wideKeys, modest, calm, conditions, laid).
  DERIVED. THE GIVEN ROWS OF THIS SEAT. 4 by the template 'for every input the law returns true; each argument reads behind the call as it read before'; 0 by the template 'total and deterministic' (their statements: Qxb6616427aTotals.lean).
  GIVEN WITH THE SEED: the statements are not yours to turn. If you find one false, say at which input.
  Laid BY PROGRAM, IN A SANDBOX (cutbox-rows.mjs): the forced cells as the released guide's own fill.sh prints them over the translation 33712dc2d3827539… (all of the seat's roots in one cut). By AI agents, Wed Nov 11 2026. No macro, syntax, notation, axiom, sorry.
-/
import Derived.Test.Qxb6616427aChecked
import GoSem.Claim
import GoSem.ClaimJoined
import GoSem.ClaimMapViews
import Derived.JoinedTies
import Derived.KernelRfl
namespace Go.Proofs.Qxb6616427a
/- THE CELL 'sum', in the pinned program and in every row, IS THE sha256 OF THE DUMP (.gsa) THAT Qxb6616427aProg.lean LOADS. Nothing in Lean hashes anything: it is a label: what it is worth is what the hold of that sum in a sandbox is worth. -/
noncomputable def Try.pinned : Pinned := { name := "qxb6616427a", sum := "33712dc2d3827539fe369373f9805be287064403ad71d41f0f85a986f32a7598", checked := Try.checked }
namespace Rows
def none {H : Type} : Left H := { results := [], args := [] }

/-- 'zzlaws_internal_store_b1.FnPartsKeysGrowByOneStampKey': WHATEVER THE INPUT: true; the input reads as it did. -/
def fnPartsKeysGrowByOneStampKeySpec : ChangeSpec := { name := "fnPartsKeysGrowByOneStampKey", fn := fun _ => fun
  | [d1, d2, d3, d4, d5, d6] => { results := [.lit (.bool true)], args := [d1, d2, d3, d4, d5, d6] }
  | _ => none }
def fnPartsKeysGrowByOneStampKeyRow : OpenClaim := { program := "qxb6616427a", sum := "33712dc2d3827539fe369373f9805be287064403ad71d41f0f85a986f32a7598", func := "example.com/kausa/kausa/zzlaws_internal_store_b1.FnPartsKeysGrowByOneStampKey", spec := "fnPartsKeysGrowByOneStampKey", unfollowed := true, recurses := true, apart := false }
def FnPartsKeysGrowByOneStampKeySaid : Prop := fnPartsKeysGrowByOneStampKeyRow.holds Try.pinned (OpenSpec.ofChange fnPartsKeysGrowByOneStampKeySpec)

/-- ITS FALSE NEIGHBOUR: 'it returns false'. Refute it at one input. -/
def fnPartsKeysGrowByOneStampKeyWrong : ChangeSpec := { name := "fnPartsKeysGrowByOneStampKey", fn := fun _ => fun
  | [d1, d2, d3, d4, d5, d6] => { results := [.lit (.bool false)], args := [d1, d2, d3, d4, d5, d6] }
  | _ => none }
def FnPartsKeysGrowByOneStampKeyWrongFalsely : Prop := fnPartsKeysGrowByOneStampKeyRow.holds Try.pinned (OpenSpec.ofChange fnPartsKeysGrowByOneStampKeyWrong)

/-- 'zzlaws_internal_store_b1.FnPartsKeepTheStateWhole': WHATEVER THE INPUT: true; the input reads as it did. -/
def fnPartsKeepTheStateWholeSpec : ChangeSpec := { name := "fnPartsKeepTheStateWhole", fn := fun _ => fun
  | [d1, d2, d3] => { results := [.lit (.bool true)], args := [d1, d2, d3] }
  | _ => none }
def fnPartsKeepTheStateWholeRow : OpenClaim := { program := "qxb6616427a", sum := "33712dc2d3827539fe369373f9805be287064403ad71d41f0f85a986f32a7598", func := "example.com/kausa/kausa/zzlaws_internal_store_b1.FnPartsKeepTheStateWhole", spec := "fnPartsKeepTheStateWhole", unfollowed := true, recurses := true, apart := false }
def FnPartsKeepTheStateWholeSaid : Prop := fnPartsKeepTheStateWholeRow.holds Try.pinned (OpenSpec.ofChange fnPartsKeepTheStateWholeSpec)

/-- ITS FALSE NEIGHBOUR: 'it returns false'. Refute it at one input. -/
def fnPartsKeepTheStateWholeWrong : ChangeSpec := { name := "fnPartsKeepTheStateWhole", fn := fun _ => fun
  | [d1, d2, d3] => { results := [.lit (.bool false)], args := [d1, d2, d3] }
  | _ => none }
def FnPartsKeepTheStateWholeWrongFalsely : Prop := fnPartsKeepTheStateWholeRow.holds Try.pinned (OpenSpec.ofChange fnPartsKeepTheStateWholeWrong)

/-- 'zzlaws_internal_store_b1.FnWeighOpSplitsAtAnyCut': WHATEVER THE INPUT: true; the input reads as it did. -/
def fnWeighOpSplitsAtAnyCutSpec : ChangeSpec := { name := "fnWeighOpSplitsAtAnyCut", fn := fun _ => fun
  | [d1, d2, d3, d4, d5] => { results := [.lit (.bool true)], args := [d1, d2, d3, d4, d5] }
  | _ => none }
def fnWeighOpSplitsAtAnyCutRow : OpenClaim := { program := "qxb6616427a", sum := "33712dc2d3827539fe369373f9805be287064403ad71d41f0f85a986f32a7598", func := "example.com/kausa/kausa/zzlaws_internal_store_b1.FnWeighOpSplitsAtAnyCut", spec := "fnWeighOpSplitsAtAnyCut", apart := false }
def FnWeighOpSplitsAtAnyCutSaid : Prop := fnWeighOpSplitsAtAnyCutRow.holds Try.pinned (OpenSpec.ofChange fnWeighOpSplitsAtAnyCutSpec)

/-- ITS FALSE NEIGHBOUR: 'it returns false'. Refute it at one input. -/
def fnWeighOpSplitsAtAnyCutWrong : ChangeSpec := { name := "fnWeighOpSplitsAtAnyCut", fn := fun _ => fun
  | [d1, d2, d3, d4, d5] => { results := [.lit (.bool false)], args := [d1, d2, d3, d4, d5] }
  | _ => none }
def FnWeighOpSplitsAtAnyCutWrongFalsely : Prop := fnWeighOpSplitsAtAnyCutRow.holds Try.pinned (OpenSpec.ofChange fnWeighOpSplitsAtAnyCutWrong)

/-- 'zzlaws_internal_store_b1.FnWeighOpIgnoresKindAndFieldAndExceedsBytes': WHATEVER THE INPUT: true; the input reads as it did. -/
def fnWeighOpIgnoresKindAndFieldAndExceedsBytesSpec : ChangeSpec := { name := "fnWeighOpIgnoresKindAndFieldAndExceedsBytes", fn := fun _ => fun
  | [d1, d2, d3, d4] => { results := [.lit (.bool true)], args := [d1, d2, d3, d4] }
  | _ => none }
def fnWeighOpIgnoresKindAndFieldAndExceedsBytesRow : OpenClaim := { program := "qxb6616427a", sum := "33712dc2d3827539fe369373f9805be287064403ad71d41f0f85a986f32a7598", func := "example.com/kausa/kausa/zzlaws_internal_store_b1.FnWeighOpIgnoresKindAndFieldAndExceedsBytes", spec := "fnWeighOpIgnoresKindAndFieldAndExceedsBytes", apart := false }
def FnWeighOpIgnoresKindAndFieldAndExceedsBytesSaid : Prop := fnWeighOpIgnoresKindAndFieldAndExceedsBytesRow.holds Try.pinned (OpenSpec.ofChange fnWeighOpIgnoresKindAndFieldAndExceedsBytesSpec)

/-- ITS FALSE NEIGHBOUR: 'it returns false'. Refute it at one input. -/
def fnWeighOpIgnoresKindAndFieldAndExceedsBytesWrong : ChangeSpec := { name := "fnWeighOpIgnoresKindAndFieldAndExceedsBytes", fn := fun _ => fun
  | [d1, d2, d3, d4] => { results := [.lit (.bool false)], args := [d1, d2, d3, d4] }
  | _ => none }
def FnWeighOpIgnoresKindAndFieldAndExceedsBytesWrongFalsely : Prop := fnWeighOpIgnoresKindAndFieldAndExceedsBytesRow.holds Try.pinned (OpenSpec.ofChange fnWeighOpIgnoresKindAndFieldAndExceedsBytesWrong)

end Rows
end Go.Proofs.Qxb6616427a
