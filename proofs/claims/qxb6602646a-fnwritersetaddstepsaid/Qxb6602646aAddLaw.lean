/-
  The plain law of one add.
-/
import Derived.Test.Qxb6602646aScrLaw
import Derived.Test.Qxb6602646aWk
namespace Go.Proofs.Qxb6602646a

theorem addTx_again (rnd t : Int) (q : Option (Int × List Int)) : addTx rnd t (some (rnd, addTx rnd t q)) = addTx rnd t q := by
  unfold addTx
  rcases q with _ | ⟨r, tx⟩
  · simp
  · by_cases h : r = rnd
    · by_cases h2 : tx.getLast? = some t <;> simp [h, h2]
    · simp [h]
theorem lk_opAdd (rnd t : Int) (A : List (Int × (Int × List Int))) (o : POp) (k : Int) : lkG (opAdd rnd t A o) k = if (o.kind == 1 && o.key == k) then some (rnd, addTx rnd t (lkG A k)) else lkG A k := by
  unfold opAdd
  by_cases h1 : o.kind = 1
  · rw [if_pos h1, lkG_upG]
    by_cases h2 : o.key = k
    · subst h2; simp [h1]
    · simp [h2]
  · simp [h1]
/-- What one add leaves of a key. -/
theorem lk_adds (rnd t : Int) (k : Int) (ops : List POp) : ∀ A : List (Int × (Int × List Int)), lkG (ops.foldl (opAdd rnd t) A) k = if writesK ops k then some (rnd, addTx rnd t (lkG A k)) else lkG A k := by
  induction ops with
  | nil => intro A; rfl
  | cons o ops ih =>
    intro A
    rw [List.foldl_cons, ih, lk_opAdd]
    by_cases h : (o.kind == 1 && o.key == k) = true
    · have e2 : writesK (o :: ops) k = true := by simp only [writesK, List.any_cons, h, Bool.true_or]
      rw [e2, if_pos rfl, if_pos h, addTx_again]
      split <;> rfl
    · have e2 : writesK (o :: ops) k = writesK ops k := by simp only [writesK, List.any_cons, Bool.eq_false_iff.2 h, Bool.false_or]
      rw [e2, if_neg h]
/-! ### The fresh keys -/
/-- Is operation a of ops the first write of a key that is not among keys? -/
def freshAt (keys : List Int) (ops : List POp) (a : Nat) : Bool :=
  (opAt ops a).kind == 1 && !(writesK (ops.take a) (opAt ops a).key) && !(decide ((opAt ops a).key ∈ keys))
def freshN (keys : List Int) (ops : List POp) : Nat → Nat
  | 0 => 0
  | a + 1 => freshN keys ops a + (if freshAt keys ops a then 1 else 0)
theorem upG_len {α : Type} (M : List (Int × α)) (k : Int) (v : α) : (upG M k v).length = M.length + (if k ∈ M.map (fun p => p.1) then 0 else 1) := by
  induction M with
  | nil => simp [upG]
  | cons p M ih =>
    unfold upG
    by_cases h : p.1 = k
    · rw [if_pos h]; simp [h]
    · have h' : ¬ k = p.1 := fun e => h e.symm
      rw [if_neg h, List.length_cons, ih, List.length_cons, List.map_cons]
      simp only [List.mem_cons, h', false_or]
      omega
theorem fold_keysA (rnd t : Int) (ops : List POp) : ∀ (A : List (Int × (Int × List Int))) x, x ∈ (ops.foldl (opAdd rnd t) A).map (fun p => p.1) ↔ x ∈ A.map (fun p => p.1) ∨ writesK ops x = true := by
  induction ops with
  | nil => intro A x; simp [writesK]
  | cons o ops ih =>
    intro A x
    rw [List.foldl_cons, ih]
    have e2 : writesK (o :: ops) x = ((o.kind == 1 && o.key == x) || writesK ops x) := by simp only [writesK, List.any_cons]
    rw [e2, Bool.or_eq_true]
    unfold opAdd
    by_cases h1 : o.kind = 1
    · rw [if_pos h1, mem_upG]
      have : (o.kind == 1 && o.key == x) = true ↔ x = o.key := by
        simp only [h1, beq_self_eq_true, Bool.true_and, beq_iff_eq]
        exact ⟨fun e => e.symm, fun e => e.symm⟩
      rw [this]
      exact or_assoc
    · rw [if_neg h1]
      have : (o.kind == 1 && o.key == x) = true ↔ False := by simp [h1]
      rw [this, false_or]
theorem fold_len (rnd t : Int) (A : List (Int × (Int × List Int))) (ops : List POp) : ∀ a, a ≤ ops.length → ((ops.take a).foldl (opAdd rnd t) A).length = A.length + freshN (A.map fun p => p.1) ops a := by
  intro a
  induction a with
  | zero => intro _; rfl
  | succ a ih =>
    intro h
    have ih' := ih (by omega)
    rw [foldl_snoc _ _ _ _ h, freshN]
    rw [← opAt_eq ops a h]
    unfold freshAt
    have eo : ∀ B, opAdd rnd t B (opAt ops a) = if (opAt ops a).kind = 1 then upG B (opAt ops a).key (rnd, addTx rnd t (lkG B (opAt ops a).key)) else B := fun B => rfl
    rw [eo]
    by_cases h1 : (opAt ops a).kind = 1
    · rw [if_pos h1, upG_len, ih']
      have e := fold_keysA rnd t (ops.take a) A (opAt ops a).key
      by_cases h2 : (opAt ops a).key ∈ A.map (fun p => p.1)
      · rw [if_pos (e.2 (.inl h2))]
        simp [h2]
      · by_cases h3 : writesK (ops.take a) (opAt ops a).key = true
        · rw [if_pos (e.2 (.inr h3))]
          simp [h3]
        · rw [if_neg (fun hm => by rcases e.1 hm with q | q; exact h2 q; exact h3 q)]
          have h3' : writesK (ops.take a) (opAt ops a).key = false := by simpa using h3
          rw [h3']
          simp only [h1, decide_eq_false h2]
          simp
          omega
    · rw [if_neg h1, ih']
      simp [h1]
theorem freshN_le (keys : List Int) (ops : List POp) : ∀ a, freshN keys ops a ≤ a := by
  intro a
  induction a with
  | zero => exact Nat.le_refl _
  | succ a ih => rw [freshN]; split <;> omega
/-- A fresh key: the set holds t alone. -/
theorem addTx_none (rnd t : Int) : addTx rnd t none = [t] := by simp [addTx]
theorem addTx_other {rnd r t : Int} {tx : List Int} (h : r ≠ rnd) : addTx rnd t (some (r, tx)) = [t] := by simp [addTx, h]
end Go.Proofs.Qxb6602646a
