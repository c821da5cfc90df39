/-
  No cell of these rows narrows 'for every input' (looked for: loops, veiled, ifaces, maps, wideKeys, modest, calm, conditions, laid).
  DERIVED. THE GIVEN ROWS OF THIS SEAT. 4 by the template 'for every input the law returns true; each argument reads behind the call as it read before'; 0 by the template 'total and deterministic' (their statements: Qxb6616805aTotals.lean).
  GIVEN WITH THE SEED: the statements are not yours to turn. If you find one false, say at which input.
  Laid BY PROGRAM, IN A SANDBOX (cutbox-rows.mjs): the forced cells as the released guide's own fill.sh prints them over the translation 457c3471e1d30307… (all of the seat's roots in one cut). By AI agents, Wed Nov 11 2026. No macro, syntax, notation, axiom, sorry.
-/
import Derived.Test.Qxb6616805aChecked
import GoSem.Claim
import GoSem.ClaimJoined
import GoSem.ClaimMapViews
import Derived.JoinedTies
import Derived.KernelRfl
namespace Go.Proofs.Qxb6616805a
/- THE CELL 'sum', in the pinned program and in every row, IS THE sha256 OF THE DUMP (.gsa) THAT Qxb6616805aProg.lean LOADS. Nothing in Lean hashes anything: it is a label: what it is worth is what the hold of that sum in a sandbox is worth. -/
noncomputable def Try.pinned : Pinned := { name := "qxb6616805a", sum := "457c3471e1d30307a0f03aa7873be89b3a0e5608b8cb2a54bc4bda3b399f8029", checked := Try.checked }
namespace Rows
def none {H : Type} : Left H := { results := [], args := [] }

/-- 'zzlaws_internal_sip_b1.FnIsTokenAtAnyCut': WHATEVER THE INPUT: true; the input reads as it did. -/
def fnIsTokenAtAnyCutSpec : ChangeSpec := { name := "fnIsTokenAtAnyCut", fn := fun _ => fun
  | [d1, d2] => { results := [.lit (.bool true)], args := [d1, d2] }
  | _ => none }
def fnIsTokenAtAnyCutRow : OpenClaim := { program := "qxb6616805a", sum := "457c3471e1d30307a0f03aa7873be89b3a0e5608b8cb2a54bc4bda3b399f8029", func := "example.com/callsign/callsign/zzlaws_internal_sip_b1.FnIsTokenAtAnyCut", spec := "fnIsTokenAtAnyCut", inPlace := ["internal/bytealg.IndexByteString"], apart := false }
def FnIsTokenAtAnyCutSaid : Prop := fnIsTokenAtAnyCutRow.holds Try.pinned (OpenSpec.ofChange fnIsTokenAtAnyCutSpec)

/-- ITS FALSE NEIGHBOUR: 'it returns false'. Refute it at one input. -/
def fnIsTokenAtAnyCutWrong : ChangeSpec := { name := "fnIsTokenAtAnyCut", fn := fun _ => fun
  | [d1, d2] => { results := [.lit (.bool false)], args := [d1, d2] }
  | _ => none }
def FnIsTokenAtAnyCutWrongFalsely : Prop := fnIsTokenAtAnyCutRow.holds Try.pinned (OpenSpec.ofChange fnIsTokenAtAnyCutWrong)

/-- 'zzlaws_internal_sip_b1.FnIsTokenIsOneListItem': WHATEVER THE INPUT: true; the input reads as it did. -/
def fnIsTokenIsOneListItemSpec : ChangeSpec := { name := "fnIsTokenIsOneListItem", fn := fun _ => fun
  | [d1, d2] => { results := [.lit (.bool true)], args := [d1, d2] }
  | _ => none }
def fnIsTokenIsOneListItemRow : OpenClaim := { program := "qxb6616805a", sum := "457c3471e1d30307a0f03aa7873be89b3a0e5608b8cb2a54bc4bda3b399f8029", func := "example.com/callsign/callsign/zzlaws_internal_sip_b1.FnIsTokenIsOneListItem", spec := "fnIsTokenIsOneListItem", inPlace := ["internal/bytealg.IndexByteString"], apart := false }
def FnIsTokenIsOneListItemSaid : Prop := fnIsTokenIsOneListItemRow.holds Try.pinned (OpenSpec.ofChange fnIsTokenIsOneListItemSpec)

/-- ITS FALSE NEIGHBOUR: 'it returns false'. Refute it at one input. -/
def fnIsTokenIsOneListItemWrong : ChangeSpec := { name := "fnIsTokenIsOneListItem", fn := fun _ => fun
  | [d1, d2] => { results := [.lit (.bool false)], args := [d1, d2] }
  | _ => none }
def FnIsTokenIsOneListItemWrongFalsely : Prop := fnIsTokenIsOneListItemRow.holds Try.pinned (OpenSpec.ofChange fnIsTokenIsOneListItemWrong)

/-- 'zzlaws_internal_sip_b1.FnAllEscapedOrExact': WHATEVER THE INPUT: true; the input reads as it did. -/
def fnAllEscapedOrExactSpec : ChangeSpec := { name := "fnAllEscapedOrExact", fn := fun _ => fun
  | [d1, d2] => { results := [.lit (.bool true)], args := [d1, d2] }
  | _ => none }
def fnAllEscapedOrExactRow : OpenClaim := { program := "qxb6616805a", sum := "457c3471e1d30307a0f03aa7873be89b3a0e5608b8cb2a54bc4bda3b399f8029", func := "example.com/callsign/callsign/zzlaws_internal_sip_b1.FnAllEscapedOrExact", spec := "fnAllEscapedOrExact", unfollowed := true, recurses := true, apart := false }
def FnAllEscapedOrExactSaid : Prop := fnAllEscapedOrExactRow.holds Try.pinned (OpenSpec.ofChange fnAllEscapedOrExactSpec)

/-- ITS FALSE NEIGHBOUR: 'it returns false'. Refute it at one input. -/
def fnAllEscapedOrExactWrong : ChangeSpec := { name := "fnAllEscapedOrExact", fn := fun _ => fun
  | [d1, d2] => { results := [.lit (.bool false)], args := [d1, d2] }
  | _ => none }
def FnAllEscapedOrExactWrongFalsely : Prop := fnAllEscapedOrExactRow.holds Try.pinned (OpenSpec.ofChange fnAllEscapedOrExactWrong)

/-- 'zzlaws_internal_sip_b1.FnAllEscapedOrMeetAndEscapesOnly': WHATEVER THE INPUT: true; the input reads as it did. -/
def fnAllEscapedOrMeetAndEscapesOnlySpec : ChangeSpec := { name := "fnAllEscapedOrMeetAndEscapesOnly", fn := fun _ => fun
  | [d1, d2, d3] => { results := [.lit (.bool true)], args := [d1, d2, d3] }
  | _ => none }
def fnAllEscapedOrMeetAndEscapesOnlyRow : OpenClaim := { program := "qxb6616805a", sum := "457c3471e1d30307a0f03aa7873be89b3a0e5608b8cb2a54bc4bda3b399f8029", func := "example.com/callsign/callsign/zzlaws_internal_sip_b1.FnAllEscapedOrMeetAndEscapesOnly", spec := "fnAllEscapedOrMeetAndEscapesOnly", unfollowed := true, recurses := true, apart := false }
def FnAllEscapedOrMeetAndEscapesOnlySaid : Prop := fnAllEscapedOrMeetAndEscapesOnlyRow.holds Try.pinned (OpenSpec.ofChange fnAllEscapedOrMeetAndEscapesOnlySpec)

/-- ITS FALSE NEIGHBOUR: 'it returns false'. Refute it at one input. -/
def fnAllEscapedOrMeetAndEscapesOnlyWrong : ChangeSpec := { name := "fnAllEscapedOrMeetAndEscapesOnly", fn := fun _ => fun
  | [d1, d2, d3] => { results := [.lit (.bool false)], args := [d1, d2, d3] }
  | _ => none }
def FnAllEscapedOrMeetAndEscapesOnlyWrongFalsely : Prop := fnAllEscapedOrMeetAndEscapesOnlyRow.holds Try.pinned (OpenSpec.ofChange fnAllEscapedOrMeetAndEscapesOnlyWrong)

end Rows
end Go.Proofs.Qxb6616805a
