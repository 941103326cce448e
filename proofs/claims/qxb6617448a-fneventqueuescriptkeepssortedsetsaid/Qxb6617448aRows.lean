/-
  No cell of these rows narrows 'for every input' (looked for: loops, veiled, ifaces, maps, wideKeys, modest, calm, conditions, laid).
  DERIVED. THE GIVEN ROWS OF THIS SEAT. 2 by the template 'for every input the law returns true; each argument reads behind the call as it read before'; 0 by the template 'total and deterministic' (their statements: Qxb6617448aTotals.lean).
  GIVEN WITH THE SEED: the statements are not yours to turn. If you find one false, say at which input.
  Laid BY PROGRAM, IN A SANDBOX (cutbox-rows.mjs): the forced cells as the released guide's own fill.sh prints them over the translation c101be568f260047… (all of the seat's roots in one cut). By AI agents, Wed Nov 11 2026. No macro, syntax, notation, axiom, sorry.
-/
import Derived.Test.Qxb6617448aChecked
import GoSem.Claim
import GoSem.ClaimJoined
import GoSem.ClaimMapViews
import Derived.JoinedTies
import Derived.KernelRfl
namespace Go.Proofs.Qxb6617448a
/- THE CELL 'sum', in the pinned program and in every row, IS THE sha256 OF THE DUMP (.gsa) THAT Qxb6617448aProg.lean LOADS. Nothing in Lean hashes anything: it is a label: what it is worth is what the hold of that sum in a sandbox is worth. -/
noncomputable def Try.pinned : Pinned := { name := "qxb6617448a", sum := "c101be568f260047fcbf0286ff5b9f61c506a5efbd8e47eb953077eacc801b92", checked := Try.checked }
namespace Rows
def none {H : Type} : Left H := { results := [], args := [] }

/-- 'zzlaws_sim_b1.FnEventQueueDrainsInOrder': WHATEVER THE INPUT: true; the input reads as it did. -/
def fnEventQueueDrainsInOrderSpec : ChangeSpec := { name := "fnEventQueueDrainsInOrder", fn := fun _ => fun
  | [d] => { results := [.lit (.bool true)], args := [d] }
  | _ => none }
def fnEventQueueDrainsInOrderRow : OpenClaim := { program := "qxb6617448a", sum := "c101be568f260047fcbf0286ff5b9f61c506a5efbd8e47eb953077eacc801b92", func := "example.com/commitward/commitward/zzlaws_sim_b1.FnEventQueueDrainsInOrder", spec := "fnEventQueueDrainsInOrder", apart := false }
def FnEventQueueDrainsInOrderSaid : Prop := fnEventQueueDrainsInOrderRow.holds Try.pinned (OpenSpec.ofChange fnEventQueueDrainsInOrderSpec)

/-- ITS FALSE NEIGHBOUR: 'it returns false'. Refute it at one input. -/
def fnEventQueueDrainsInOrderWrong : ChangeSpec := { name := "fnEventQueueDrainsInOrder", fn := fun _ => fun
  | [d] => { results := [.lit (.bool false)], args := [d] }
  | _ => none }
def FnEventQueueDrainsInOrderWrongFalsely : Prop := fnEventQueueDrainsInOrderRow.holds Try.pinned (OpenSpec.ofChange fnEventQueueDrainsInOrderWrong)

/-- 'zzlaws_sim_b1.FnEventQueueScriptKeepsSortedSet': WHATEVER THE INPUT: true; the input reads as it did. -/
def fnEventQueueScriptKeepsSortedSetSpec : ChangeSpec := { name := "fnEventQueueScriptKeepsSortedSet", fn := fun _ => fun
  | [d1, d2] => { results := [.lit (.bool true)], args := [d1, d2] }
  | _ => none }
def fnEventQueueScriptKeepsSortedSetRow : OpenClaim := { program := "qxb6617448a", sum := "c101be568f260047fcbf0286ff5b9f61c506a5efbd8e47eb953077eacc801b92", func := "example.com/commitward/commitward/zzlaws_sim_b1.FnEventQueueScriptKeepsSortedSet", spec := "fnEventQueueScriptKeepsSortedSet", apart := false }
def FnEventQueueScriptKeepsSortedSetSaid : Prop := fnEventQueueScriptKeepsSortedSetRow.holds Try.pinned (OpenSpec.ofChange fnEventQueueScriptKeepsSortedSetSpec)

/-- ITS FALSE NEIGHBOUR: 'it returns false'. Refute it at one input. -/
def fnEventQueueScriptKeepsSortedSetWrong : ChangeSpec := { name := "fnEventQueueScriptKeepsSortedSet", fn := fun _ => fun
  | [d1, d2] => { results := [.lit (.bool false)], args := [d1, d2] }
  | _ => none }
def FnEventQueueScriptKeepsSortedSetWrongFalsely : Prop := fnEventQueueScriptKeepsSortedSetRow.holds Try.pinned (OpenSpec.ofChange fnEventQueueScriptKeepsSortedSetWrong)

end Rows
end Go.Proofs.Qxb6617448a
