/-
  No cell of these rows narrows 'for every input' (looked for: loops, veiled, ifaces, maps, wideKeys, modest, calm, conditions, laid).
  DERIVED. THE GIVEN ROWS OF THIS SEAT. 6 by the template 'for every input the law returns true; each argument reads behind the call as it read before'; 0 by the template 'total and deterministic' (their statements: Qxb6602646aTotals.lean).
  GIVEN WITH THE SEED: the statements are not yours to turn. If you find one false, say at which input.
  Laid BY PROGRAM, IN A SANDBOX (cutbox-rows.mjs): the forced cells as the released guide's own fill.sh prints them over the translation 35401a78e19629e1… (all of the seat's roots in one cut). By AI agents, Wed Nov 11 2026. No macro, syntax, notation, axiom, sorry.
-/
import Derived.Test.Qxb6602646aChecked
import GoSem.Claim
import GoSem.ClaimJoined
import GoSem.ClaimMapViews
import Derived.JoinedTies
import Derived.KernelRfl
namespace Go.Proofs.Qxb6602646a
/- THE CELL 'sum', in the pinned program and in every row, IS THE sha256 OF THE DUMP (.gsa) THAT Qxb6602646aProg.lean LOADS. Nothing in Lean hashes anything: it is a label: what it is worth is what the hold of that sum in a sandbox is worth. -/
noncomputable def Try.pinned : Pinned := { name := "qxb6602646a", sum := "35401a78e19629e1f53b32f55db3b242ef74be792eb9cf70e306b0fd1666bbca", checked := Try.checked }
namespace Rows
def none {H : Type} : Left H := { results := [], args := [] }

/-- 'zzlaws_isolation_b1.FnWritesByKeyMatchesKeyFirstModel': WHATEVER THE INPUT: true; the input reads as it did. -/
def fnWritesByKeyMatchesKeyFirstModelSpec : ChangeSpec := { name := "fnWritesByKeyMatchesKeyFirstModel", fn := fun _ => fun
  | [d1, d2] => { results := [.lit (.bool true)], args := [d1, d2] }
  | _ => none }
def fnWritesByKeyMatchesKeyFirstModelRow : OpenClaim := { program := "qxb6602646a", sum := "35401a78e19629e1f53b32f55db3b242ef74be792eb9cf70e306b0fd1666bbca", func := "example.com/knotwalk/knotwalk/zzlaws_isolation_b1.FnWritesByKeyMatchesKeyFirstModel", spec := "fnWritesByKeyMatchesKeyFirstModel", plainKeys := false, apart := false }
def FnWritesByKeyMatchesKeyFirstModelSaid : Prop := fnWritesByKeyMatchesKeyFirstModelRow.holds Try.pinned (OpenSpec.ofChange fnWritesByKeyMatchesKeyFirstModelSpec)

/-- ITS FALSE NEIGHBOUR: 'it returns false'. Refute it at one input. -/
def fnWritesByKeyMatchesKeyFirstModelWrong : ChangeSpec := { name := "fnWritesByKeyMatchesKeyFirstModel", fn := fun _ => fun
  | [d1, d2] => { results := [.lit (.bool false)], args := [d1, d2] }
  | _ => none }
def FnWritesByKeyMatchesKeyFirstModelWrongFalsely : Prop := fnWritesByKeyMatchesKeyFirstModelRow.holds Try.pinned (OpenSpec.ofChange fnWritesByKeyMatchesKeyFirstModelWrong)

/-- 'zzlaws_isolation_b1.FnWritesByKeyIgnoresReadsValuesAndIds': WHATEVER THE INPUT: true; the input reads as it did. -/
def fnWritesByKeyIgnoresReadsValuesAndIdsSpec : ChangeSpec := { name := "fnWritesByKeyIgnoresReadsValuesAndIds", fn := fun _ => fun
  | [d1, d2] => { results := [.lit (.bool true)], args := [d1, d2] }
  | _ => none }
def fnWritesByKeyIgnoresReadsValuesAndIdsRow : OpenClaim := { program := "qxb6602646a", sum := "35401a78e19629e1f53b32f55db3b242ef74be792eb9cf70e306b0fd1666bbca", func := "example.com/knotwalk/knotwalk/zzlaws_isolation_b1.FnWritesByKeyIgnoresReadsValuesAndIds", spec := "fnWritesByKeyIgnoresReadsValuesAndIds", plainKeys := false, apart := false }
def FnWritesByKeyIgnoresReadsValuesAndIdsSaid : Prop := fnWritesByKeyIgnoresReadsValuesAndIdsRow.holds Try.pinned (OpenSpec.ofChange fnWritesByKeyIgnoresReadsValuesAndIdsSpec)

/-- ITS FALSE NEIGHBOUR: 'it returns false'. Refute it at one input. -/
def fnWritesByKeyIgnoresReadsValuesAndIdsWrong : ChangeSpec := { name := "fnWritesByKeyIgnoresReadsValuesAndIds", fn := fun _ => fun
  | [d1, d2] => { results := [.lit (.bool false)], args := [d1, d2] }
  | _ => none }
def FnWritesByKeyIgnoresReadsValuesAndIdsWrongFalsely : Prop := fnWritesByKeyIgnoresReadsValuesAndIdsRow.holds Try.pinned (OpenSpec.ofChange fnWritesByKeyIgnoresReadsValuesAndIdsWrong)

/-- 'zzlaws_isolation_b1.FnOverwrittenWritesMatchesLaterWriteModel': WHATEVER THE INPUT: true; the input reads as it did. -/
def fnOverwrittenWritesMatchesLaterWriteModelSpec : ChangeSpec := { name := "fnOverwrittenWritesMatchesLaterWriteModel", fn := fun _ => fun
  | [d] => { results := [.lit (.bool true)], args := [d] }
  | _ => none }
def fnOverwrittenWritesMatchesLaterWriteModelRow : OpenClaim := { program := "qxb6602646a", sum := "35401a78e19629e1f53b32f55db3b242ef74be792eb9cf70e306b0fd1666bbca", func := "example.com/knotwalk/knotwalk/zzlaws_isolation_b1.FnOverwrittenWritesMatchesLaterWriteModel", spec := "fnOverwrittenWritesMatchesLaterWriteModel", plainKeys := false, apart := false }
def FnOverwrittenWritesMatchesLaterWriteModelSaid : Prop := fnOverwrittenWritesMatchesLaterWriteModelRow.holds Try.pinned (OpenSpec.ofChange fnOverwrittenWritesMatchesLaterWriteModelSpec)

/-- ITS FALSE NEIGHBOUR: 'it returns false'. Refute it at one input. -/
def fnOverwrittenWritesMatchesLaterWriteModelWrong : ChangeSpec := { name := "fnOverwrittenWritesMatchesLaterWriteModel", fn := fun _ => fun
  | [d] => { results := [.lit (.bool false)], args := [d] }
  | _ => none }
def FnOverwrittenWritesMatchesLaterWriteModelWrongFalsely : Prop := fnOverwrittenWritesMatchesLaterWriteModelRow.holds Try.pinned (OpenSpec.ofChange fnOverwrittenWritesMatchesLaterWriteModelWrong)

/-- 'zzlaws_isolation_b1.FnOverwrittenWritesIgnoresTxnOrder': WHATEVER THE INPUT: true; the input reads as it did. -/
def fnOverwrittenWritesIgnoresTxnOrderSpec : ChangeSpec := { name := "fnOverwrittenWritesIgnoresTxnOrder", fn := fun _ => fun
  | [d] => { results := [.lit (.bool true)], args := [d] }
  | _ => none }
def fnOverwrittenWritesIgnoresTxnOrderRow : OpenClaim := { program := "qxb6602646a", sum := "35401a78e19629e1f53b32f55db3b242ef74be792eb9cf70e306b0fd1666bbca", func := "example.com/knotwalk/knotwalk/zzlaws_isolation_b1.FnOverwrittenWritesIgnoresTxnOrder", spec := "fnOverwrittenWritesIgnoresTxnOrder", plainKeys := false, apart := false }
def FnOverwrittenWritesIgnoresTxnOrderSaid : Prop := fnOverwrittenWritesIgnoresTxnOrderRow.holds Try.pinned (OpenSpec.ofChange fnOverwrittenWritesIgnoresTxnOrderSpec)

/-- ITS FALSE NEIGHBOUR: 'it returns false'. Refute it at one input. -/
def fnOverwrittenWritesIgnoresTxnOrderWrong : ChangeSpec := { name := "fnOverwrittenWritesIgnoresTxnOrder", fn := fun _ => fun
  | [d] => { results := [.lit (.bool false)], args := [d] }
  | _ => none }
def FnOverwrittenWritesIgnoresTxnOrderWrongFalsely : Prop := fnOverwrittenWritesIgnoresTxnOrderRow.holds Try.pinned (OpenSpec.ofChange fnOverwrittenWritesIgnoresTxnOrderWrong)

/-- 'zzlaws_isolation_b1.FnWriterSetAddStep': WHATEVER THE INPUT: true; the input reads as it did. -/
def fnWriterSetAddStepSpec : ChangeSpec := { name := "fnWriterSetAddStep", fn := fun _ => fun
  | [d1, d2, d3, d4, d5, d6, d7] => { results := [.lit (.bool true)], args := [d1, d2, d3, d4, d5, d6, d7] }
  | _ => none }
def fnWriterSetAddStepRow : OpenClaim := { program := "qxb6602646a", sum := "35401a78e19629e1f53b32f55db3b242ef74be792eb9cf70e306b0fd1666bbca", func := "example.com/knotwalk/knotwalk/zzlaws_isolation_b1.FnWriterSetAddStep", spec := "fnWriterSetAddStep", plainKeys := false, apart := false }
def FnWriterSetAddStepSaid : Prop := fnWriterSetAddStepRow.holds Try.pinned (OpenSpec.ofChange fnWriterSetAddStepSpec)

/-- ITS FALSE NEIGHBOUR: 'it returns false'. Refute it at one input. -/
def fnWriterSetAddStepWrong : ChangeSpec := { name := "fnWriterSetAddStep", fn := fun _ => fun
  | [d1, d2, d3, d4, d5, d6, d7] => { results := [.lit (.bool false)], args := [d1, d2, d3, d4, d5, d6, d7] }
  | _ => none }
def FnWriterSetAddStepWrongFalsely : Prop := fnWriterSetAddStepRow.holds Try.pinned (OpenSpec.ofChange fnWriterSetAddStepWrong)

/-- 'zzlaws_isolation_b1.FnWriterSetScriptWriters': WHATEVER THE INPUT: true; the input reads as it did. -/
def fnWriterSetScriptWritersSpec : ChangeSpec := { name := "fnWriterSetScriptWriters", fn := fun _ => fun
  | [d1, d2] => { results := [.lit (.bool true)], args := [d1, d2] }
  | _ => none }
def fnWriterSetScriptWritersRow : OpenClaim := { program := "qxb6602646a", sum := "35401a78e19629e1f53b32f55db3b242ef74be792eb9cf70e306b0fd1666bbca", func := "example.com/knotwalk/knotwalk/zzlaws_isolation_b1.FnWriterSetScriptWriters", spec := "fnWriterSetScriptWriters", plainKeys := false, apart := false }
def FnWriterSetScriptWritersSaid : Prop := fnWriterSetScriptWritersRow.holds Try.pinned (OpenSpec.ofChange fnWriterSetScriptWritersSpec)

/-- ITS FALSE NEIGHBOUR: 'it returns false'. Refute it at one input. -/
def fnWriterSetScriptWritersWrong : ChangeSpec := { name := "fnWriterSetScriptWriters", fn := fun _ => fun
  | [d1, d2] => { results := [.lit (.bool false)], args := [d1, d2] }
  | _ => none }
def FnWriterSetScriptWritersWrongFalsely : Prop := fnWriterSetScriptWritersRow.holds Try.pinned (OpenSpec.ofChange fnWriterSetScriptWritersWrong)

end Rows
end Go.Proofs.Qxb6602646a
