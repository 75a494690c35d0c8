/-
  No cell of these rows narrows 'for every input' (looked for: loops, veiled, ifaces, maps, wideKeys, modest, calm, conditions, laid).
  DERIVED. THE GIVEN ROWS OF THIS SEAT. 2 by the template 'for every input the law returns true; each argument reads behind the call as it read before'; 0 by the template 'total and deterministic' (their statements: Qxb6603366aTotals.lean).
  GIVEN WITH THE SEED: the statements are not yours to turn. If you find one false, say at which input.
  Laid BY PROGRAM, IN A SANDBOX (cutbox-rows.mjs): the forced cells as the released guide's own fill.sh prints them over the translation 941089af71427dfa… (all of the seat's roots in one cut). By AI agents, Wed Nov 11 2026. No macro, syntax, notation, axiom, sorry.
-/
import Derived.Test.Qxb6603366aChecked
import GoSem.Claim
import GoSem.ClaimJoined
import GoSem.ClaimMapViews
import Derived.JoinedTies
import Derived.KernelRfl
namespace Go.Proofs.Qxb6603366a
/- THE CELL 'sum', in the pinned program and in every row, IS THE sha256 OF THE DUMP (.gsa) THAT Qxb6603366aProg.lean LOADS. Nothing in Lean hashes anything: it is a label: what it is worth is what the hold of that sum in a sandbox is worth. -/
noncomputable def Try.pinned : Pinned := { name := "qxb6603366a", sum := "941089af71427dfab5b0bf3da511a5a96d9ab813639651f33d867834f11ab6d4", checked := Try.checked }
namespace Rows
def none {H : Type} : Left H := { results := [], args := [] }

/-- 'zzlaws_internal_jsonfile_b1.FnMemberSplitAtLastDotInverts': WHATEVER THE INPUT: true; the input reads as it did. -/
def fnMemberSplitAtLastDotInvertsSpec : ChangeSpec := { name := "fnMemberSplitAtLastDotInverts", fn := fun _ => fun
  | [d1, d2] => { results := [.lit (.bool true)], args := [d1, d2] }
  | _ => none }
def fnMemberSplitAtLastDotInvertsRow : OpenClaim := { program := "qxb6603366a", sum := "941089af71427dfab5b0bf3da511a5a96d9ab813639651f33d867834f11ab6d4", func := "example.com/synod/synod/zzlaws_internal_jsonfile_b1.FnMemberSplitAtLastDotInverts", spec := "fnMemberSplitAtLastDotInverts", apart := false }
def FnMemberSplitAtLastDotInvertsSaid : Prop := fnMemberSplitAtLastDotInvertsRow.holds Try.pinned (OpenSpec.ofChange fnMemberSplitAtLastDotInvertsSpec)

/-- ITS FALSE NEIGHBOUR: 'it returns false'. Refute it at one input. -/
def fnMemberSplitAtLastDotInvertsWrong : ChangeSpec := { name := "fnMemberSplitAtLastDotInverts", fn := fun _ => fun
  | [d1, d2] => { results := [.lit (.bool false)], args := [d1, d2] }
  | _ => none }
def FnMemberSplitAtLastDotInvertsWrongFalsely : Prop := fnMemberSplitAtLastDotInvertsRow.holds Try.pinned (OpenSpec.ofChange fnMemberSplitAtLastDotInvertsWrong)

/-- 'zzlaws_internal_jsonfile_b1.FnMemberNestsAssociatively': WHATEVER THE INPUT: true; the input reads as it did. -/
def fnMemberNestsAssociativelySpec : ChangeSpec := { name := "fnMemberNestsAssociatively", fn := fun _ => fun
  | [d1, d2, d3] => { results := [.lit (.bool true)], args := [d1, d2, d3] }
  | _ => none }
def fnMemberNestsAssociativelyRow : OpenClaim := { program := "qxb6603366a", sum := "941089af71427dfab5b0bf3da511a5a96d9ab813639651f33d867834f11ab6d4", func := "example.com/synod/synod/zzlaws_internal_jsonfile_b1.FnMemberNestsAssociatively", spec := "fnMemberNestsAssociatively", apart := false }
def FnMemberNestsAssociativelySaid : Prop := fnMemberNestsAssociativelyRow.holds Try.pinned (OpenSpec.ofChange fnMemberNestsAssociativelySpec)

/-- ITS FALSE NEIGHBOUR: 'it returns false'. Refute it at one input. -/
def fnMemberNestsAssociativelyWrong : ChangeSpec := { name := "fnMemberNestsAssociatively", fn := fun _ => fun
  | [d1, d2, d3] => { results := [.lit (.bool false)], args := [d1, d2, d3] }
  | _ => none }
def FnMemberNestsAssociativelyWrongFalsely : Prop := fnMemberNestsAssociativelyRow.holds Try.pinned (OpenSpec.ofChange fnMemberNestsAssociativelyWrong)

end Rows
end Go.Proofs.Qxb6603366a
