/-
  Rows.FnQueueDrainGivesAllInOrderAndLetsGoOfFullBlocksSaid, proved: the frame is the kit's template at this function's number and types; the walk: Dra.
-/
import Derived.Test.Qxb6603480aRows
import Derived.Test.Qxb6603480aDra
import Derived.Test.Qxb6603480aOpen
import Derived.ChangeOld
namespace Go.Proofs.Qxb6603480a.fnQueueDrainGivesAllInOrderAndLetsGoOfFullBlocks
open Go.ChangeShapes Go.WideShapes Go.ChangeAt Go.RowKit
set_option linter.unusedVariables false

theorem own : ownKnob Try.prog.godebug = none := by kernel_rfl
theorem laidOut : laidOutB Try.prog = true := by kernel_rfl

set_option maxRecDepth 100000 in
theorem lifted (os : Os) (started : os.Started) (H : Type) (enc : TypeId × Value → H) :
    ReturnsInHanded {} Try.checked os 4 .any (Rows.fnQueueDrainGivesAllInOrderAndLetsGoOfFullBlocksSpec.pre6 enc Try.prog Try.f4 Rows.fnQueueDrainGivesAllInOrderAndLetsGoOfFullBlocksRow.domain false) (Rows.fnQueueDrainGivesAllInOrderAndLetsGoOfFullBlocksSpec.post enc Try.prog Try.f4 false true false false) := by
  refine returnsInHanded_of_change (C := Try.checked) own started (by kernel_rfl) Try.func4
    (ChangeSpec.witness6 (enc := enc) (C := Try.checked) false ⟨#[], #[.slice none 0 0, .slice none 0 0, .int .i64 0], []⟩ 8 (by kernel_rfl) (by kernel_rfl) (by kernel_rfl) (by kernel_rfl)) ?_
  intro W base args ds gs before hval0 hW hcnd _
  have hval : ∀ (j : Nat) t v, Try.f4.params[j]? = some t → args[j]? = some v → Value.okWide Try.prog W .any base t v := hval0
  have hW' := hW
  obtain ⟨p, q, hA0, hV, rfl, hfz, hnd⟩ := hW
  have hA : DataW.TrodAll enc Try.prog W 0 (fun _ => true) true Try.f4.params.toList args.toList ds p := hA0
  rw [Try.params4] at hA hval
  obtain ⟨v0, vs0, d0, ds0, p0, q0, hargs, rfl, rfl, h0, r0⟩ := trodAll_cons hA
  obtain ⟨v1, vs1, d1, ds1, p1, q1, rfl, rfl, rfl, h1, r1⟩ := trodAll_cons r0
  obtain ⟨v2, vs2, d2, ds2, p2, q2, rfl, rfl, rfl, h2, r2⟩ := trodAll_cons r1
  obtain ⟨rfl, rfl, rfl⟩ := trodAll_nil r2
  obtain rfl : args = #[v0, v1, v2] := by cases args; simp_all
  obtain ⟨rfl, rfl⟩ := trodVars_none hV
  obtain ⟨a0, len0, cap0, rfl⟩ := okWide_slice Try.underlying22 (hval 0 22 v0 rfl rfl)
  obtain ⟨a1, len1, cap1, rfl⟩ := okWide_slice Try.underlying22 (hval 1 22 v1 rfl rfl)
  obtain ⟨hd, rfl⟩ := okWide_int Try.underlying3 (hval 2 3 v2 rfl rfl)
  have k0 := h0
  have k1 := h1
  have k2 := h2
  have lt0 : ∀ x ∈ p0, x.block < W.heap.size := by obtain ⟨m, hm⟩ := k0; exact DataW.trod_lt m _ _ _ hm
  have lt1 : ∀ x ∈ p1, x.block < W.heap.size := by obtain ⟨m, hm⟩ := k1; exact DataW.trod_lt m _ _ _ hm
  have lt2 : ∀ x ∈ p2, x.block < W.heap.size := by obtain ⟨m, hm⟩ := k2; exact DataW.trod_lt m _ _ _ hm
  obtain ⟨fuel0, hf0⟩ := h0
  obtain ⟨fuel1, hf1⟩ := h1
  obtain ⟨a0', c0', T, hv, hlen, hnil, hT⟩ := open_rows (v := .slice a0 len0 cap0) hf0
  obtain ⟨rfl, rfl, rfl⟩ : a0 = a0' ∧ len0 = T.length ∧ cap0 = c0' := by simpa using hv
  obtain ⟨a1', c1', script, hv1, hlen1, hnil1, hS⟩ := open_rows (v := .slice a1 len1 cap1) hf1
  obtain ⟨rfl, rfl, rfl⟩ : a1 = a1' ∧ len1 = script.length ∧ cap1 = c1' := by simpa using hv1
  clear hA0 hval0
  refine (mainDra a0 a1 cap0 cap1 hd (· < W.heap.size) T script W hT hS (fun _ h => h) hlen hlen1 hnil hnil1).mono fun e W' ⟨he, bel⟩ => ?_
  subst he
  exact ⟨_, rfl, _, _, _, [], _, [], hW', trodAll_mk1 (shut_bool Try.underlying4 _), (trodAll_mk3 (Below.trod laidOut (by kernel_rfl) (of_decide_eq_true (by kernel_rfl)) k0 bel lt0) (Below.trod laidOut (by kernel_rfl) (of_decide_eq_true (by kernel_rfl)) k1 bel lt1) (Below.trod laidOut (by kernel_rfl) (of_decide_eq_true (by kernel_rfl)) k2 bel lt2)), rfl, bel.frame _, fun h => by cases h⟩

theorem over : Rows.fnQueueDrainGivesAllInOrderAndLetsGoOfFullBlocksRow.holds Try.pinned (OpenSpec.ofChange Rows.fnQueueDrainGivesAllInOrderAndLetsGoOfFullBlocksSpec) :=
  OpenClaim.holds_of_wide 4 Try.f4 rfl rfl rfl rfl rfl rfl rfl ⟨rfl, rfl, rfl, rfl, rfl⟩ rfl rfl rfl rfl rfl (by kernel_rfl) Try.func4 (by kernel_rfl)
    (of_decide_eq_true (by kernel_rfl)) (by unfold Func.isWrapper; first | (rw [if_pos (by decide +kernel)]; kernel_rfl) | (rw [if_neg (by decide +kernel)]; exact ⟨rfl, rfl⟩))
    (fun os started H enc _ => lifted os started H enc)

theorem proved : Rows.FnQueueDrainGivesAllInOrderAndLetsGoOfFullBlocksSaid := over
#print axioms proved
end Go.Proofs.Qxb6603480a.fnQueueDrainGivesAllInOrderAndLetsGoOfFullBlocks
