/-
  No cell of these rows narrows 'for every input' (looked for: loops, veiled, ifaces, maps, wideKeys, modest, calm, conditions, laid).
  DERIVED. THE GIVEN ROWS OF THIS SEAT. 2 by the template 'for every input the law returns true; each argument reads behind the call as it read before'; 0 by the template 'total and deterministic' (their statements: Qxb6619367aTotals.lean).
  GIVEN WITH THE SEED: the statements are not yours to turn. If you find one false, say at which input.
  Laid BY PROGRAM, IN A SANDBOX (cutbox-rows.mjs): the forced cells as the released guide's own fill.sh prints them over the translation b2ddf5e088967bd8… (all of the seat's roots in one cut). By AI agents, Wed Nov 11 2026. No macro, syntax, notation, axiom, sorry.
-/
import Derived.Test.Qxb6619367aChecked
import GoSem.Claim
import GoSem.ClaimJoined
import GoSem.ClaimMapViews
import Derived.JoinedTies
import Derived.KernelRfl
namespace Go.Proofs.Qxb6619367a
/- THE CELL 'sum', in the pinned program and in every row, IS THE sha256 OF THE DUMP (.gsa) THAT Qxb6619367aProg.lean LOADS. Nothing in Lean hashes anything: it is a label: what it is worth is what the hold of that sum in a sandbox is worth. -/
noncomputable def Try.pinned : Pinned := { name := "qxb6619367a", sum := "b2ddf5e088967bd875b90fbf265102b39df624ba38dff43ca910b13e8abad059", checked := Try.checked }
namespace Rows
def none {H : Type} : Left H := { results := [], args := [] }

/-- 'zzlaws_root_b1.FnCopyGrantsAddTwiceIsAddOfJoined': WHATEVER THE INPUT: true; the input reads as it did. -/
def fnCopyGrantsAddTwiceIsAddOfJoinedSpec : ChangeSpec := { name := "fnCopyGrantsAddTwiceIsAddOfJoined", fn := fun _ => fun
  | [d1, d2, d3, d4, d5, d6, d7, d8] => { results := [.lit (.bool true)], args := [d1, d2, d3, d4, d5, d6, d7, d8] }
  | _ => none }
def fnCopyGrantsAddTwiceIsAddOfJoinedRow : OpenClaim := { program := "qxb6619367a", sum := "b2ddf5e088967bd875b90fbf265102b39df624ba38dff43ca910b13e8abad059", func := "example.com/discriminator/discriminator/zzlaws_root_b1.FnCopyGrantsAddTwiceIsAddOfJoined", spec := "fnCopyGrantsAddTwiceIsAddOfJoined", apart := false }
def FnCopyGrantsAddTwiceIsAddOfJoinedSaid : Prop := fnCopyGrantsAddTwiceIsAddOfJoinedRow.holds Try.pinned (OpenSpec.ofChange fnCopyGrantsAddTwiceIsAddOfJoinedSpec)

/-- ITS FALSE NEIGHBOUR: 'it returns false'. Refute it at one input. -/
def fnCopyGrantsAddTwiceIsAddOfJoinedWrong : ChangeSpec := { name := "fnCopyGrantsAddTwiceIsAddOfJoined", fn := fun _ => fun
  | [d1, d2, d3, d4, d5, d6, d7, d8] => { results := [.lit (.bool false)], args := [d1, d2, d3, d4, d5, d6, d7, d8] }
  | _ => none }
def FnCopyGrantsAddTwiceIsAddOfJoinedWrongFalsely : Prop := fnCopyGrantsAddTwiceIsAddOfJoinedRow.holds Try.pinned (OpenSpec.ofChange fnCopyGrantsAddTwiceIsAddOfJoinedWrong)

/-- 'zzlaws_root_b1.FnCopyGrantsAddsToTwoSchemasCommute': WHATEVER THE INPUT: true; the input reads as it did. -/
def fnCopyGrantsAddsToTwoSchemasCommuteSpec : ChangeSpec := { name := "fnCopyGrantsAddsToTwoSchemasCommute", fn := fun _ => fun
  | [d1, d2, d3, d4, d5, d6, d7, d8, d9] => { results := [.lit (.bool true)], args := [d1, d2, d3, d4, d5, d6, d7, d8, d9] }
  | _ => none }
def fnCopyGrantsAddsToTwoSchemasCommuteRow : OpenClaim := { program := "qxb6619367a", sum := "b2ddf5e088967bd875b90fbf265102b39df624ba38dff43ca910b13e8abad059", func := "example.com/discriminator/discriminator/zzlaws_root_b1.FnCopyGrantsAddsToTwoSchemasCommute", spec := "fnCopyGrantsAddsToTwoSchemasCommute", apart := false }
def FnCopyGrantsAddsToTwoSchemasCommuteSaid : Prop := fnCopyGrantsAddsToTwoSchemasCommuteRow.holds Try.pinned (OpenSpec.ofChange fnCopyGrantsAddsToTwoSchemasCommuteSpec)

/-- ITS FALSE NEIGHBOUR: 'it returns false'. Refute it at one input. -/
def fnCopyGrantsAddsToTwoSchemasCommuteWrong : ChangeSpec := { name := "fnCopyGrantsAddsToTwoSchemasCommute", fn := fun _ => fun
  | [d1, d2, d3, d4, d5, d6, d7, d8, d9] => { results := [.lit (.bool false)], args := [d1, d2, d3, d4, d5, d6, d7, d8, d9] }
  | _ => none }
def FnCopyGrantsAddsToTwoSchemasCommuteWrongFalsely : Prop := fnCopyGrantsAddsToTwoSchemasCommuteRow.holds Try.pinned (OpenSpec.ofChange fnCopyGrantsAddsToTwoSchemasCommuteWrong)

end Rows
end Go.Proofs.Qxb6619367a
