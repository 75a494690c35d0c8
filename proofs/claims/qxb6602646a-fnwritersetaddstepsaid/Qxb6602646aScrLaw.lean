/-
  The writer set's plain laws: a script of adds and emptyings.
-/
import Derived.Test.Qxb6602646aAdd
import Derived.Test.Qxb6602646aOwLaw
namespace Go.Proofs.Qxb6602646a
open Go.RowKit

/-- What 'writers' hands out of a key's record. -/
def wOf (rnd : Int) : Option (Int × List Int) → List Int
  | some (q, tx) => if q = rnd then tx else []
  | none => []
def snocU (l : List Int) (t : Int) : List Int := if l.getLast? = some t then l else l ++ [t]
theorem snocU_snocU (l : List Int) (t : Int) : snocU (snocU l t) t = snocU l t := by
  unfold snocU
  by_cases h : l.getLast? = some t
  · simp [h]
  · simp [h]
theorem addTx_eq (rnd t : Int) (q : Option (Int × List Int)) : addTx rnd t q = snocU (wOf rnd q) t := by
  unfold addTx snocU wOf
  rcases q with _ | ⟨r, tx⟩ <;> rfl
def writesK (ops : List POp) (k : Int) : Bool := ops.any fun o => o.kind == 1 && o.key == k
theorem wOf_op (rnd t : Int) (A : List (Int × (Int × List Int))) (o : POp) (k : Int) :
    wOf rnd (lkG (opAdd rnd t A o) k) = if (o.kind == 1 && o.key == k) then snocU (wOf rnd (lkG A k)) t else wOf rnd (lkG A k) := by
  unfold opAdd
  by_cases h1 : o.kind = 1
  · rw [if_pos h1, lkG_upG]
    by_cases h2 : o.key = k
    · subst h2
      simp [h1, wOf, addTx_eq]
    · simp [h1, h2]
  · simp [h1]
theorem wOf_fold (rnd t : Int) (k : Int) : ∀ (ops : List POp) (A : List (Int × (Int × List Int))),
    wOf rnd (lkG (ops.foldl (opAdd rnd t) A) k) = if writesK ops k then snocU (wOf rnd (lkG A k)) t else wOf rnd (lkG A k) := by
  intro ops
  induction ops with
  | nil => intro A; simp [writesK]
  | cons o ops ih =>
    intro A
    rw [List.foldl_cons, ih, wOf_op]
    by_cases h1 : (o.kind == 1 && o.key == k) = true
    · have h2 : writesK (o :: ops) k = true := by simp only [writesK, List.any_cons, h1, Bool.true_or]
      rw [if_pos h1, if_pos h2, snocU_snocU, ite_self]
    · have h2 : writesK (o :: ops) k = writesK ops k := by simp only [writesK, List.any_cons, Bool.eq_false_iff.2 h1, Bool.false_or]
      rw [if_neg h1, h2]
theorem fold_old {rnd t : Int} : ∀ (ops : List POp) (A : List (Int × (Int × List Int))), (∀ k q tx, lkG A k = some (q, tx) → q ≤ rnd) → ∀ k q tx, lkG (ops.foldl (opAdd rnd t) A) k = some (q, tx) → q ≤ rnd := by
  intro ops
  induction ops with
  | nil => intro A h; exact h
  | cons o ops ih =>
    intro A h
    refine ih _ (fun k q tx hq => ?_)
    unfold opAdd at hq
    by_cases h1 : o.kind = 1
    · rw [if_pos h1, lkG_upG] at hq
      by_cases h2 : o.key = k
      · rw [if_pos h2] at hq
        cases hq
        exact Int.le_refl _
      · rw [if_neg h2] at hq; exact h k q tx hq
    · rw [if_neg h1] at hq; exact h k q tx hq

/-- Transaction u writes k. -/
def wrT (T : List PTxn) (k u : Int) : Bool := match T[u.toNat]? with | some x => writesK x.ops k | none => false
theorem wrT_nat (T : List PTxn) (k : Int) (t : Nat) (h : t < T.length) : wrT T k (t : Int) = writesK T[t].ops k := by
  unfold wrT
  simp [h]
/-- One step of the script, on the plain set. -/
def stepS (S : List Int) (s : Int) : List Int := if s < -1 then [] else if s < 0 then S else if s ∈ S then S else S ++ [s]
structure ScrInv (T : List PTxn) (rnd : Int) (al : List Int) (A : List (Int × (Int × List Int))) (S : List Int) : Prop where
  len : al.length = T.length
  mem : ∀ t (h : t < al.length), al[t] = rnd ↔ (t : Int) ∈ S
  le : ∀ t (h : t < al.length), al[t] ≤ rnd
  rng : ∀ u ∈ S, 0 ≤ u ∧ u < T.length
  wr : ∀ k, wOf rnd (lkG A k) = S.filter (wrT T k)
  old : ∀ k q tx, lkG A k = some (q, tx) → q ≤ rnd
theorem ScrInv.start (T : List PTxn) : ScrInv T 1 (List.replicate T.length 0) [] [] :=
  ⟨by simp, fun t h => by simp, fun t h => by simp, fun u hu => by simp at hu, fun k => rfl, fun k q tx h => by simp [lkG] at h⟩
section
variable {T : List PTxn} {rnd : Int} {al : List Int} {A : List (Int × (Int × List Int))} {S : List Int}
theorem ScrInv.reset (h : ScrInv T rnd al A S) {s : Int} (hs : s < -1) : ScrInv T (rnd + 1) al A (stepS S s) := by
  unfold stepS
  rw [if_pos hs]
  refine ⟨h.len, fun t ht => ⟨fun e => ?_, fun e => by simp at e⟩, fun t ht => ?_, fun u hu => by simp at hu, fun k => ?_, fun k q tx hq => ?_⟩
  · have := h.le t ht; omega
  · have := h.le t ht; omega
  · unfold wOf
    split
    · rename_i q tx hq
      have := h.old k q tx hq
      rw [if_neg (by omega)]; rfl
    · rfl
  · have := h.old k q tx hq; omega
theorem ScrInv.initial (h : ScrInv T rnd al A S) : ScrInv T rnd al A (stepS S (-1)) := by
  have : stepS S (-1) = S := by simp [stepS]
  rw [this]; exact h
theorem ScrInv.again (h : ScrInv T rnd al A S) {t : Nat} (ht : t < al.length) (hr : al[t] = rnd) : ScrInv T rnd al A (stepS S t) := by
  have h1 := (h.mem t ht).1 hr
  have : stepS S (t : Int) = S := by
    unfold stepS
    rw [if_neg (by omega), if_neg (by omega), if_pos h1]
  rw [this]; exact h
theorem ScrInv.add (h : ScrInv T rnd al A S) {t : Nat} (ht : t < al.length) (htT : t < T.length) (hr : al[t] ≠ rnd) : ScrInv T rnd (al.set t rnd) (T[t].ops.foldl (opAdd rnd t) A) (stepS S t) := by
  have h1 : (t : Int) ∉ S := fun e => hr ((h.mem t ht).2 e)
  have hS : stepS S (t : Int) = S ++ [(t : Int)] := by
    unfold stepS
    rw [if_neg (by omega), if_neg (by omega), if_neg h1]
  rw [hS]
  refine ⟨by rw [List.length_set]; exact h.len, fun i hi => ?_, fun i hi => ?_, fun u hu => ?_, fun k => ?_, fold_old _ _ h.old⟩
  · rw [List.getElem_set]
    by_cases e : t = i
    · subst e; simp
    · rw [if_neg e, h.mem i (by simpa using hi)]
      simp
      omega
  · rw [List.getElem_set]
    split
    · exact Int.le_refl _
    · exact h.le i (by simpa using hi)
  · rcases List.mem_append.1 hu with hu | hu
    · exact h.rng u hu
    · simp at hu; subst hu; omega
  · rw [wOf_fold, h.wr k, List.filter_append]
    simp only [List.filter_cons, List.filter_nil, wrT_nat T k t htT]
    by_cases hw : writesK T[t].ops k = true
    · rw [if_pos hw, if_pos hw]
      unfold snocU
      rw [if_neg]
      intro e
      exact h1 (List.mem_filter.1 (List.mem_of_getLast? e)).1
    · rw [if_neg hw, if_neg hw, List.append_nil]
end
/-- The plain set behind m steps. -/
def scrS (script : List Int) (m : Nat) : List Int := (script.take m).foldl stepS []
theorem scrS_snoc (script : List Int) (m : Nat) (h : m < script.length) : scrS script (m + 1) = stepS (scrS script m) script[m] := by
  unfold scrS
  rw [List.take_succ_eq_append_getElem h, List.foldl_append]
  rfl
end Go.Proofs.Qxb6602646a
