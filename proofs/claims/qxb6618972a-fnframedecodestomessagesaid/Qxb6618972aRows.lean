/-
  No cell of these rows narrows 'for every input' (looked for: loops, veiled, ifaces, maps, wideKeys, modest, calm, conditions, laid).
  DERIVED. THE GIVEN ROWS OF THIS SEAT. 6 by the template 'for every input the law returns true; each argument reads behind the call as it read before'; 0 by the template 'total and deterministic' (their statements: Qxb6618972aTotals.lean).
  GIVEN WITH THE SEED: the statements are not yours to turn. If you find one false, say at which input.
  Laid BY PROGRAM, IN A SANDBOX (cutbox-rows.mjs): the forced cells as the released guide's own fill.sh prints them over the translation 85fc4b5901f5eb83… (all of the seat's roots in one cut). By AI agents, Wed Nov 11 2026. No macro, syntax, notation, axiom, sorry.
-/
import Derived.Test.Qxb6618972aChecked
import GoSem.Claim
import GoSem.ClaimJoined
import GoSem.ClaimMapViews
import Derived.JoinedTies
import Derived.KernelRfl
namespace Go.Proofs.Qxb6618972a
/- THE CELL 'sum', in the pinned program and in every row, IS THE sha256 OF THE DUMP (.gsa) THAT Qxb6618972aProg.lean LOADS. Nothing in Lean hashes anything: it is a label: what it is worth is what the hold of that sum in a sandbox is worth. -/
noncomputable def Try.pinned : Pinned := { name := "qxb6618972a", sum := "85fc4b5901f5eb83c824aa01c292e911d1bc72d13f3684fdfe744cf58e450e38", checked := Try.checked }
namespace Rows
def none {H : Type} : Left H := { results := [], args := [] }

/-- 'zzlaws_root_b1.FnSinkWriteJoinsAtAnyCut': WHATEVER THE INPUT: true; the input reads as it did. -/
def fnSinkWriteJoinsAtAnyCutSpec : ChangeSpec := { name := "fnSinkWriteJoinsAtAnyCut", fn := fun _ => fun
  | [d1, d2, d3] => { results := [.lit (.bool true)], args := [d1, d2, d3] }
  | _ => none }
def fnSinkWriteJoinsAtAnyCutRow : OpenClaim := { program := "qxb6618972a", sum := "85fc4b5901f5eb83c824aa01c292e911d1bc72d13f3684fdfe744cf58e450e38", func := "example.com/coxswain/coxswain/zzlaws_root_b1.FnSinkWriteJoinsAtAnyCut", spec := "fnSinkWriteJoinsAtAnyCut", apart := false }
def FnSinkWriteJoinsAtAnyCutSaid : Prop := fnSinkWriteJoinsAtAnyCutRow.holds Try.pinned (OpenSpec.ofChange fnSinkWriteJoinsAtAnyCutSpec)

/-- ITS FALSE NEIGHBOUR: 'it returns false'. Refute it at one input. -/
def fnSinkWriteJoinsAtAnyCutWrong : ChangeSpec := { name := "fnSinkWriteJoinsAtAnyCut", fn := fun _ => fun
  | [d1, d2, d3] => { results := [.lit (.bool false)], args := [d1, d2, d3] }
  | _ => none }
def FnSinkWriteJoinsAtAnyCutWrongFalsely : Prop := fnSinkWriteJoinsAtAnyCutRow.holds Try.pinned (OpenSpec.ofChange fnSinkWriteJoinsAtAnyCutWrong)

/-- 'zzlaws_root_b1.FnSinkWriteKeepsACopy': WHATEVER THE INPUT: true; the input reads as it did. -/
def fnSinkWriteKeepsACopySpec : ChangeSpec := { name := "fnSinkWriteKeepsACopy", fn := fun _ => fun
  | [d1, d2] => { results := [.lit (.bool true)], args := [d1, d2] }
  | _ => none }
def fnSinkWriteKeepsACopyRow : OpenClaim := { program := "qxb6618972a", sum := "85fc4b5901f5eb83c824aa01c292e911d1bc72d13f3684fdfe744cf58e450e38", func := "example.com/coxswain/coxswain/zzlaws_root_b1.FnSinkWriteKeepsACopy", spec := "fnSinkWriteKeepsACopy", apart := false }
def FnSinkWriteKeepsACopySaid : Prop := fnSinkWriteKeepsACopyRow.holds Try.pinned (OpenSpec.ofChange fnSinkWriteKeepsACopySpec)

/-- ITS FALSE NEIGHBOUR: 'it returns false'. Refute it at one input. -/
def fnSinkWriteKeepsACopyWrong : ChangeSpec := { name := "fnSinkWriteKeepsACopy", fn := fun _ => fun
  | [d1, d2] => { results := [.lit (.bool false)], args := [d1, d2] }
  | _ => none }
def FnSinkWriteKeepsACopyWrongFalsely : Prop := fnSinkWriteKeepsACopyRow.holds Try.pinned (OpenSpec.ofChange fnSinkWriteKeepsACopyWrong)

/-- 'zzlaws_root_b1.FnPositionInvertsLogLayout': WHATEVER THE INPUT: true; the input reads as it did. -/
def fnPositionInvertsLogLayoutSpec : ChangeSpec := { name := "fnPositionInvertsLogLayout", fn := fun _ => fun
  | [d1, d2, d3] => { results := [.lit (.bool true)], args := [d1, d2, d3] }
  | _ => none }
def fnPositionInvertsLogLayoutRow : OpenClaim := { program := "qxb6618972a", sum := "85fc4b5901f5eb83c824aa01c292e911d1bc72d13f3684fdfe744cf58e450e38", func := "example.com/coxswain/coxswain/zzlaws_root_b1.FnPositionInvertsLogLayout", spec := "fnPositionInvertsLogLayout", apart := false }
def FnPositionInvertsLogLayoutSaid : Prop := fnPositionInvertsLogLayoutRow.holds Try.pinned (OpenSpec.ofChange fnPositionInvertsLogLayoutSpec)

/-- ITS FALSE NEIGHBOUR: 'it returns false'. Refute it at one input. -/
def fnPositionInvertsLogLayoutWrong : ChangeSpec := { name := "fnPositionInvertsLogLayout", fn := fun _ => fun
  | [d1, d2, d3] => { results := [.lit (.bool false)], args := [d1, d2, d3] }
  | _ => none }
def FnPositionInvertsLogLayoutWrongFalsely : Prop := fnPositionInvertsLogLayoutRow.holds Try.pinned (OpenSpec.ofChange fnPositionInvertsLogLayoutWrong)

/-- 'zzlaws_root_b1.FnHoldsAgreesWithLogCutAtAnyPoint': WHATEVER THE INPUT: true; the input reads as it did. -/
def fnHoldsAgreesWithLogCutAtAnyPointSpec : ChangeSpec := { name := "fnHoldsAgreesWithLogCutAtAnyPoint", fn := fun _ => fun
  | [d1, d2, d3, d4, d5, d6] => { results := [.lit (.bool true)], args := [d1, d2, d3, d4, d5, d6] }
  | _ => none }
def fnHoldsAgreesWithLogCutAtAnyPointRow : OpenClaim := { program := "qxb6618972a", sum := "85fc4b5901f5eb83c824aa01c292e911d1bc72d13f3684fdfe744cf58e450e38", func := "example.com/coxswain/coxswain/zzlaws_root_b1.FnHoldsAgreesWithLogCutAtAnyPoint", spec := "fnHoldsAgreesWithLogCutAtAnyPoint", apart := false }
def FnHoldsAgreesWithLogCutAtAnyPointSaid : Prop := fnHoldsAgreesWithLogCutAtAnyPointRow.holds Try.pinned (OpenSpec.ofChange fnHoldsAgreesWithLogCutAtAnyPointSpec)

/-- ITS FALSE NEIGHBOUR: 'it returns false'. Refute it at one input. -/
def fnHoldsAgreesWithLogCutAtAnyPointWrong : ChangeSpec := { name := "fnHoldsAgreesWithLogCutAtAnyPoint", fn := fun _ => fun
  | [d1, d2, d3, d4, d5, d6] => { results := [.lit (.bool false)], args := [d1, d2, d3, d4, d5, d6] }
  | _ => none }
def FnHoldsAgreesWithLogCutAtAnyPointWrongFalsely : Prop := fnHoldsAgreesWithLogCutAtAnyPointRow.holds Try.pinned (OpenSpec.ofChange fnHoldsAgreesWithLogCutAtAnyPointWrong)

/-- 'zzlaws_root_b1.FnFrameDecodesToMessage': WHATEVER THE INPUT: true; the input reads as it did. -/
def fnFrameDecodesToMessageSpec : ChangeSpec := { name := "fnFrameDecodesToMessage", fn := fun _ => fun
  | [d1, d2] => { results := [.lit (.bool true)], args := [d1, d2] }
  | _ => none }
def fnFrameDecodesToMessageRow : OpenClaim := { program := "qxb6618972a", sum := "85fc4b5901f5eb83c824aa01c292e911d1bc72d13f3684fdfe744cf58e450e38", func := "example.com/coxswain/coxswain/zzlaws_root_b1.FnFrameDecodesToMessage", spec := "fnFrameDecodesToMessage", unfollowed := true, recurses := true, apart := false }
def FnFrameDecodesToMessageSaid : Prop := fnFrameDecodesToMessageRow.holds Try.pinned (OpenSpec.ofChange fnFrameDecodesToMessageSpec)

/-- ITS FALSE NEIGHBOUR: 'it returns false'. Refute it at one input. -/
def fnFrameDecodesToMessageWrong : ChangeSpec := { name := "fnFrameDecodesToMessage", fn := fun _ => fun
  | [d1, d2] => { results := [.lit (.bool false)], args := [d1, d2] }
  | _ => none }
def FnFrameDecodesToMessageWrongFalsely : Prop := fnFrameDecodesToMessageRow.holds Try.pinned (OpenSpec.ofChange fnFrameDecodesToMessageWrong)

/-- 'zzlaws_root_b1.FnFrameFollowsAnyPrefix': WHATEVER THE INPUT: true; the input reads as it did. -/
def fnFrameFollowsAnyPrefixSpec : ChangeSpec := { name := "fnFrameFollowsAnyPrefix", fn := fun _ => fun
  | [d1, d2] => { results := [.lit (.bool true)], args := [d1, d2] }
  | _ => none }
def fnFrameFollowsAnyPrefixRow : OpenClaim := { program := "qxb6618972a", sum := "85fc4b5901f5eb83c824aa01c292e911d1bc72d13f3684fdfe744cf58e450e38", func := "example.com/coxswain/coxswain/zzlaws_root_b1.FnFrameFollowsAnyPrefix", spec := "fnFrameFollowsAnyPrefix", unfollowed := true, recurses := true, apart := false }
def FnFrameFollowsAnyPrefixSaid : Prop := fnFrameFollowsAnyPrefixRow.holds Try.pinned (OpenSpec.ofChange fnFrameFollowsAnyPrefixSpec)

/-- ITS FALSE NEIGHBOUR: 'it returns false'. Refute it at one input. -/
def fnFrameFollowsAnyPrefixWrong : ChangeSpec := { name := "fnFrameFollowsAnyPrefix", fn := fun _ => fun
  | [d1, d2] => { results := [.lit (.bool false)], args := [d1, d2] }
  | _ => none }
def FnFrameFollowsAnyPrefixWrongFalsely : Prop := fnFrameFollowsAnyPrefixRow.holds Try.pinned (OpenSpec.ofChange fnFrameFollowsAnyPrefixWrong)

end Rows
end Go.Proofs.Qxb6618972a
