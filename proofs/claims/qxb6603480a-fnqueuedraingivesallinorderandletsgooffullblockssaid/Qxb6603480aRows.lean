/-
  No cell of these rows narrows 'for every input' (looked for: loops, veiled, ifaces, maps, wideKeys, modest, calm, conditions, laid).
  DERIVED. THE GIVEN ROWS OF THIS SEAT. 2 by the template 'for every input the law returns true; each argument reads behind the call as it read before'; 0 by the template 'total and deterministic' (their statements: Qxb6603480aTotals.lean).
  GIVEN WITH THE SEED: the statements are not yours to turn. If you find one false, say at which input.
  Laid BY PROGRAM, IN A SANDBOX (cutbox-rows.mjs): the forced cells as the released guide's own fill.sh prints them over the translation d64efd8dd862b1df… (all of the seat's roots in one cut). By AI agents, Wed Nov 11 2026. No macro, syntax, notation, axiom, sorry.
-/
import Derived.Test.Qxb6603480aChecked
import GoSem.Claim
import GoSem.ClaimJoined
import GoSem.ClaimMapViews
import Derived.JoinedTies
import Derived.KernelRfl
namespace Go.Proofs.Qxb6603480a
/- THE CELL 'sum', in the pinned program and in every row, IS THE sha256 OF THE DUMP (.gsa) THAT Qxb6603480aProg.lean LOADS. Nothing in Lean hashes anything: it is a label: what it is worth is what the hold of that sum in a sandbox is worth. -/
noncomputable def Try.pinned : Pinned := { name := "qxb6603480a", sum := "d64efd8dd862b1df0c55f1488cc86771921201446fcc4e2fc465fdc15dc979dd", checked := Try.checked }
namespace Rows
def none {H : Type} : Left H := { results := [], args := [] }

/-- 'zzlaws_root_b1.FnQueuePopTakesTheFirstItHolds': WHATEVER THE INPUT: true; the input reads as it did. -/
def fnQueuePopTakesTheFirstItHoldsSpec : ChangeSpec := { name := "fnQueuePopTakesTheFirstItHolds", fn := fun _ => fun
  | [d1, d2, d3] => { results := [.lit (.bool true)], args := [d1, d2, d3] }
  | _ => none }
def fnQueuePopTakesTheFirstItHoldsRow : OpenClaim := { program := "qxb6603480a", sum := "d64efd8dd862b1df0c55f1488cc86771921201446fcc4e2fc465fdc15dc979dd", func := "example.com/rootwalk/rootwalk/zzlaws_root_b1.FnQueuePopTakesTheFirstItHolds", spec := "fnQueuePopTakesTheFirstItHolds", apart := false }
def FnQueuePopTakesTheFirstItHoldsSaid : Prop := fnQueuePopTakesTheFirstItHoldsRow.holds Try.pinned (OpenSpec.ofChange fnQueuePopTakesTheFirstItHoldsSpec)

/-- ITS FALSE NEIGHBOUR: 'it returns false'. Refute it at one input. -/
def fnQueuePopTakesTheFirstItHoldsWrong : ChangeSpec := { name := "fnQueuePopTakesTheFirstItHolds", fn := fun _ => fun
  | [d1, d2, d3] => { results := [.lit (.bool false)], args := [d1, d2, d3] }
  | _ => none }
def FnQueuePopTakesTheFirstItHoldsWrongFalsely : Prop := fnQueuePopTakesTheFirstItHoldsRow.holds Try.pinned (OpenSpec.ofChange fnQueuePopTakesTheFirstItHoldsWrong)

/-- 'zzlaws_root_b1.FnQueueDrainGivesAllInOrderAndLetsGoOfFullBlocks': WHATEVER THE INPUT: true; the input reads as it did. -/
def fnQueueDrainGivesAllInOrderAndLetsGoOfFullBlocksSpec : ChangeSpec := { name := "fnQueueDrainGivesAllInOrderAndLetsGoOfFullBlocks", fn := fun _ => fun
  | [d1, d2, d3] => { results := [.lit (.bool true)], args := [d1, d2, d3] }
  | _ => none }
def fnQueueDrainGivesAllInOrderAndLetsGoOfFullBlocksRow : OpenClaim := { program := "qxb6603480a", sum := "d64efd8dd862b1df0c55f1488cc86771921201446fcc4e2fc465fdc15dc979dd", func := "example.com/rootwalk/rootwalk/zzlaws_root_b1.FnQueueDrainGivesAllInOrderAndLetsGoOfFullBlocks", spec := "fnQueueDrainGivesAllInOrderAndLetsGoOfFullBlocks", apart := false }
def FnQueueDrainGivesAllInOrderAndLetsGoOfFullBlocksSaid : Prop := fnQueueDrainGivesAllInOrderAndLetsGoOfFullBlocksRow.holds Try.pinned (OpenSpec.ofChange fnQueueDrainGivesAllInOrderAndLetsGoOfFullBlocksSpec)

/-- ITS FALSE NEIGHBOUR: 'it returns false'. Refute it at one input. -/
def fnQueueDrainGivesAllInOrderAndLetsGoOfFullBlocksWrong : ChangeSpec := { name := "fnQueueDrainGivesAllInOrderAndLetsGoOfFullBlocks", fn := fun _ => fun
  | [d1, d2, d3] => { results := [.lit (.bool false)], args := [d1, d2, d3] }
  | _ => none }
def FnQueueDrainGivesAllInOrderAndLetsGoOfFullBlocksWrongFalsely : Prop := fnQueueDrainGivesAllInOrderAndLetsGoOfFullBlocksRow.holds Try.pinned (OpenSpec.ofChange fnQueueDrainGivesAllInOrderAndLetsGoOfFullBlocksWrong)

end Rows
end Go.Proofs.Qxb6603480a
