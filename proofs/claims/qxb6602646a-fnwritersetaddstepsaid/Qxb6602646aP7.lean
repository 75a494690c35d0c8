/-
  Rows.FnWriterSetAddStepSaid, proved: the frame is the kit's template at this function's number and types; the walk: M7.
-/
import Derived.Test.Qxb6602646aRows
import Derived.Test.Qxb6602646aM7
import Derived.Test.Qxb6602646aOpen2
import Derived.ChangeOld
namespace Go.Proofs.Qxb6602646a.fnWriterSetAddStep
open Go.ChangeShapes Go.WideShapes Go.ChangeAt Go.RowKit
set_option linter.unusedVariables false

theorem own : ownKnob Try.prog.godebug = none := by kernel_rfl
theorem laidOut : laidOutB Try.prog = true := by kernel_rfl

set_option maxRecDepth 100000 in
theorem lifted (os : Os) (started : os.Started) (H : Type) (enc : TypeId × Value → H) :
    ReturnsInHanded {} Try.checked os 7 .any (Rows.fnWriterSetAddStepSpec.pre6 enc Try.prog Try.f7 Rows.fnWriterSetAddStepRow.domain false) (Rows.fnWriterSetAddStepSpec.post enc Try.prog Try.f7 false true false false) := by
  refine returnsInHanded_of_change (C := Try.checked) own started (by kernel_rfl) Try.func7
    (ChangeSpec.witness6 (enc := enc) (C := Try.checked) false ⟨#[], #[.slice none 0 0, .int .i64 0, .slice none 0 0, .slice none 0 0, .slice none 0 0, .slice none 0 0, .int .i64 0], []⟩ 8 (by kernel_rfl) (by kernel_rfl) (by kernel_rfl) (by kernel_rfl)) ?_
  intro W base args ds gs before hval0 hW hcnd _
  have hval : ∀ (j : Nat) t v, Try.f7.params[j]? = some t → args[j]? = some v → Value.okWide Try.prog W .any base t v := hval0
  have hW' := hW
  obtain ⟨p, q, hA0, hV, rfl, hfz, hnd⟩ := hW
  have hA : DataW.TrodAll enc Try.prog W 0 (fun _ => true) true Try.f7.params.toList args.toList ds p := hA0
  rw [Try.params7] at hA hval
  obtain ⟨v0, vs0, d0, ds0, p0, q0, hargs, rfl, rfl, h0, r0⟩ := trodAll_cons hA
  obtain ⟨v1, vs1, d1, ds1, p1, q1, rfl, rfl, rfl, h1, r1⟩ := trodAll_cons r0
  obtain ⟨v2, vs2, d2, ds2, p2, q2, rfl, rfl, rfl, h2, r2⟩ := trodAll_cons r1
  obtain ⟨v3, vs3, d3, ds3, p3, q3, rfl, rfl, rfl, h3, r3⟩ := trodAll_cons r2
  obtain ⟨v4, vs4, d4, ds4, p4, q4, rfl, rfl, rfl, h4, r4⟩ := trodAll_cons r3
  obtain ⟨v5, vs5, d5, ds5, p5, q5, rfl, rfl, rfl, h5, r5⟩ := trodAll_cons r4
  obtain ⟨v6, vs6, d6, ds6, p6, q6, rfl, rfl, rfl, h6, r6⟩ := trodAll_cons r5
  obtain ⟨rfl, rfl, rfl⟩ := trodAll_nil r6
  obtain rfl : args = #[v0, v1, v2, v3, v4, v5, v6] := by cases args; simp_all
  obtain ⟨rfl, rfl⟩ := trodVars_none hV
  obtain ⟨a0, n0, c0, rfl⟩ := okWide_slice Try.underlying22 (hval 0 22 v0 rfl rfl)
  obtain ⟨rnd, rfl⟩ := okWide_int Try.underlying3 (hval 1 3 v1 rfl rfl)
  obtain ⟨a2, n2, c2, rfl⟩ := okWide_slice Try.underlying42 (hval 2 42 v2 rfl rfl)
  obtain ⟨a3, n3, c3, rfl⟩ := okWide_slice Try.underlying31 (hval 3 31 v3 rfl rfl)
  obtain ⟨a4, n4, c4, rfl⟩ := okWide_slice Try.underlying42 (hval 4 42 v4 rfl rfl)
  obtain ⟨a5, n5, c5, rfl⟩ := okWide_slice Try.underlying58 (hval 5 58 v5 rfl rfl)
  obtain ⟨t, rfl⟩ := okWide_int Try.underlying3 (hval 6 3 v6 rfl rfl)
  have k0 := h0
  have k1 := h1
  have k2 := h2
  have k3 := h3
  have k4 := h4
  have k5 := h5
  have k6 := h6
  have lt0 : ∀ x ∈ p0, x.block < W.heap.size := by obtain ⟨m, hm⟩ := k0; exact DataW.trod_lt m _ _ _ hm
  have lt1 : ∀ x ∈ p1, x.block < W.heap.size := by obtain ⟨m, hm⟩ := k1; exact DataW.trod_lt m _ _ _ hm
  have lt2 : ∀ x ∈ p2, x.block < W.heap.size := by obtain ⟨m, hm⟩ := k2; exact DataW.trod_lt m _ _ _ hm
  have lt3 : ∀ x ∈ p3, x.block < W.heap.size := by obtain ⟨m, hm⟩ := k3; exact DataW.trod_lt m _ _ _ hm
  have lt4 : ∀ x ∈ p4, x.block < W.heap.size := by obtain ⟨m, hm⟩ := k4; exact DataW.trod_lt m _ _ _ hm
  have lt5 : ∀ x ∈ p5, x.block < W.heap.size := by obtain ⟨m, hm⟩ := k5; exact DataW.trod_lt m _ _ _ hm
  have lt6 : ∀ x ∈ p6, x.block < W.heap.size := by obtain ⟨m, hm⟩ := k6; exact DataW.trod_lt m _ _ _ hm
  obtain ⟨fuel0, hf0⟩ := h0
  obtain ⟨fuel1, hf1⟩ := h1
  obtain ⟨fuel2, hf2⟩ := h2
  obtain ⟨fuel3, hf3⟩ := h3
  obtain ⟨fuel4, hf4⟩ := h4
  obtain ⟨fuel5, hf5⟩ := h5
  obtain ⟨fuel6, hf6⟩ := h6
  obtain ⟨a0', c0', T, hv0, hlen, hnil, hT⟩ := open_txns (v := .slice a0 n0 c0) hf0
  obtain ⟨rfl, rfl, rfl⟩ : a0 = a0' ∧ n0 = T.length ∧ c0 = c0' := by simpa using hv0
  obtain ⟨a2', c2', al, hv2, _, _, hAl⟩ := open_ints64 Try.underlying42 cells3 Try.underlying3 (v := .slice a2 n2 c2) hf2
  obtain ⟨rfl, rfl, rfl⟩ : a2 = a2' ∧ n2 = al.length ∧ c2 = c2' := by simpa using hv2
  obtain ⟨a3', c3', keys, hv3, _, _, hK⟩ := open_ints64 Try.underlying31 cells2 Try.underlying2 (v := .slice a3 n3 c3) hf3
  obtain ⟨rfl, rfl, rfl⟩ : a3 = a3' ∧ n3 = keys.length ∧ c3 = c3' := by simpa using hv3
  obtain ⟨a4', c4', rs, hv4, _, _, hR⟩ := open_ints64 Try.underlying42 cells3 Try.underlying3 (v := .slice a4 n4 c4) hf4
  obtain ⟨rfl, rfl, rfl⟩ : a4 = a4' ∧ n4 = rs.length ∧ c4 = c4' := by simpa using hv4
  obtain ⟨a5', c5', LL, hv5, hlen5, hnil5, hL⟩ := open_lists (v := .slice a5 n5 c5) hf5
  obtain ⟨rfl, rfl, rfl⟩ : a5 = a5' ∧ n5 = LL.length ∧ c5 = c5' := by simpa using hv5
  clear hA0 hval0 hA
  refine (main7 a0 a2 a3 a4 a5 c0 c2 c3 c4 c5 rnd t (· < W.heap.size) T al keys rs LL W hT hAl hK hR hL (fun _ h => h) hlen hlen5 hnil hnil5).mono fun e W' ⟨he, bel⟩ => ?_
  subst he
  have b0 := Below.trod laidOut (by kernel_rfl) (of_decide_eq_true (by kernel_rfl)) k0 bel lt0
  have b1 := Below.trod laidOut (by kernel_rfl) (of_decide_eq_true (by kernel_rfl)) k1 bel lt1
  have b2 := Below.trod laidOut (by kernel_rfl) (of_decide_eq_true (by kernel_rfl)) k2 bel lt2
  have b3 := Below.trod laidOut (by kernel_rfl) (of_decide_eq_true (by kernel_rfl)) k3 bel lt3
  have b4 := Below.trod laidOut (by kernel_rfl) (of_decide_eq_true (by kernel_rfl)) k4 bel lt4
  have b5 := Below.trod laidOut (by kernel_rfl) (of_decide_eq_true (by kernel_rfl)) k5 bel lt5
  have b6 := Below.trod laidOut (by kernel_rfl) (of_decide_eq_true (by kernel_rfl)) k6 bel lt6
  exact ⟨_, rfl, _, _, _, [], _, [], hW', trodAll_mk1 (shut_bool Try.underlying4 _), ⟨_, _, b0, ⟨_, _, b1, ⟨_, _, b2, ⟨_, _, b3, trodAll_mk3 b4 b5 b6, rfl⟩, rfl⟩, rfl⟩, rfl⟩, rfl, bel.frame _, fun h => by cases h⟩

theorem over : Rows.fnWriterSetAddStepRow.holds Try.pinned (OpenSpec.ofChange Rows.fnWriterSetAddStepSpec) :=
  OpenClaim.holds_of_wide 7 Try.f7 rfl rfl rfl rfl rfl rfl rfl ⟨rfl, rfl, rfl, rfl, rfl⟩ rfl rfl rfl rfl rfl (by kernel_rfl) Try.func7 (by kernel_rfl)
    (of_decide_eq_true (by kernel_rfl)) (by unfold Func.isWrapper; first | (rw [if_pos (by decide +kernel)]; kernel_rfl) | (rw [if_neg (by decide +kernel)]; exact ⟨rfl, rfl⟩))
    (fun os started H enc _ => lifted os started H enc)

theorem proved : Rows.FnWriterSetAddStepSaid := over
#print axioms proved
end Go.Proofs.Qxb6602646a.fnWriterSetAddStep
