/-
  The plain model of writesByKey.
-/
import Derived.Test.Qxb6602646aWb
import Derived.Test.Qxb6602646aOwLaw
namespace Go.Proofs.Qxb6602646a
open Go.RowKit

/-- An event: session, place, operation. -/
structure Ev where
  s : Nat
  p : Nat
  o : POp
def opsOf (T : List PTxn) (t : Int) : List POp := match T[t.toNat]? with | some x => x.ops | none => []
theorem opsOf_nat (T : List PTxn) (t : Nat) (h : t < T.length) : opsOf T (t : Int) = T[t].ops := by
  unfold opsOf
  simp [h]
/-- The events of the first m places of session s. -/
def plF (T : List PTxn) (s : Nat) (txns : List Int) : Nat → List Ev
  | 0 => []
  | m + 1 => plF T s txns m ++ (opsOf T (txns.getD m 0)).map fun o => ⟨s, m, o⟩
/-- The events of the first k sessions. -/
def seF (T : List PTxn) (XS : List (List Int)) : Nat → List Ev
  | 0 => []
  | k + 1 => seF T XS k ++ plF T k (XS.getD k []) (XS.getD k []).length
theorem plF_mono (T : List PTxn) (s : Nat) (txns : List Int) {m n : Nat} (h : m ≤ n) : (plF T s txns m).length ≤ (plF T s txns n).length := by
  induction n with
  | zero => obtain rfl : m = 0 := by omega
            exact Nat.le_refl _
  | succ n ih =>
    by_cases e : m = n + 1
    · subst e; exact Nat.le_refl _
    · have := ih (by omega)
      rw [plF, List.length_append]
      omega
theorem seF_mono (T : List PTxn) (XS : List (List Int)) {m n : Nat} (h : m ≤ n) : (seF T XS m).length ≤ (seF T XS n).length := by
  induction n with
  | zero => obtain rfl : m = 0 := by omega
            exact Nat.le_refl _
  | succ n ih =>
    by_cases e : m = n + 1
    · subst e; exact Nat.le_refl _
    · have := ih (by omega)
      rw [seF, List.length_append]
      omega
/-- The events behind k sessions, m places and i operations. -/
def atF (T : List PTxn) (XS : List (List Int)) (k m i : Nat) : List Ev :=
  seF T XS k ++ plF T k (XS.getD k []) m ++ ((opsOf T ((XS.getD k []).getD m 0)).take i).map fun o => ⟨k, m, o⟩
theorem atF_zero (T : List PTxn) (XS : List (List Int)) (k m : Nat) : atF T XS k m 0 = seF T XS k ++ plF T k (XS.getD k []) m := by simp [atF]
theorem atF_full (T : List PTxn) (XS : List (List Int)) (k m i : Nat) (h : (opsOf T ((XS.getD k []).getD m 0)).length ≤ i) : atF T XS k m i = atF T XS k (m + 1) 0 := by
  rw [atF_zero]
  unfold atF
  rw [List.take_of_length_le h, List.append_assoc]
  rfl
theorem atF_snoc (T : List PTxn) (XS : List (List Int)) (k m i : Nat) (h : i < (opsOf T ((XS.getD k []).getD m 0)).length) : atF T XS k m (i + 1) = atF T XS k m i ++ [⟨k, m, (opsOf T ((XS.getD k []).getD m 0))[i]⟩] := by
  unfold atF
  rw [List.take_succ_eq_append_getElem h, List.map_append, ← List.append_assoc]
  rfl
theorem atF_done (T : List PTxn) (XS : List (List Int)) (k : Nat) : atF T XS k (XS.getD k []).length 0 = seF T XS (k + 1) := by rw [atF_zero]; rfl
theorem atF_start (T : List PTxn) (XS : List (List Int)) (k : Nat) : atF T XS k 0 0 = seF T XS k := by rw [atF_zero]; simp [plF]
theorem atF_le (T : List PTxn) (XS : List (List Int)) {k m i : Nat} (hk : k < XS.length) (hm : m < (XS.getD k []).length) (hi : i < (opsOf T ((XS.getD k []).getD m 0)).length) : (atF T XS k m i).length < (seF T XS XS.length).length := by
  have h1 := seF_mono T XS (show k + 1 ≤ XS.length by omega)
  have h2 := plF_mono T k (XS.getD k []) (show m + 1 ≤ (XS.getD k []).length by omega)
  rw [seF, List.length_append] at h1
  rw [plF, List.length_append, List.length_map] at h2
  unfold atF
  rw [List.length_append, List.length_append, List.length_map, List.length_take]
  omega

/-- One write of s at place p, on a key's list. -/
def snocP (l : List Int) (t : Int) : List Int := if l.getLast? = some t then l else l ++ [t]
def swAdd (s p : Int) (ws : List (Int × List Int)) : List (Int × List Int) :=
  match ws.getLast? with
  | some (q, pl) => if q = s then ws.dropLast ++ [(q, snocP pl p)] else ws ++ [(s, [p])]
  | none => [(s, [p])]
def evStep (A : List (Int × List (Int × List Int))) (e : Ev) : List (Int × List (Int × List Int)) :=
  if e.o.kind = 1 then upG A e.o.key (swAdd e.s e.p ((lkG A e.o.key).getD [])) else A
def wbOf (F : List Ev) : List (Int × List (Int × List Int)) := F.foldl evStep []
theorem wbOf_snoc (F : List Ev) (e : Ev) : wbOf (F ++ [e]) = evStep (wbOf F) e := by unfold wbOf; rw [List.foldl_append]; rfl
theorem swAdd_snoc_same (s p : Int) (ws : List (Int × List Int)) (pl : List Int) : swAdd s p (ws ++ [(s, pl)]) = ws ++ [(s, snocP pl p)] := by
  unfold swAdd
  simp
theorem swAdd_snoc_other (s p q : Int) (ws : List (Int × List Int)) (pl : List Int) (h : q ≠ s) : swAdd s p (ws ++ [(q, pl)]) = ws ++ [(q, pl)] ++ [(s, [p])] := by
  unfold swAdd
  simp [h]
theorem swAdd_nil (s p : Int) : swAdd s p [] = [(s, [p])] := rfl
end Go.Proofs.Qxb6602646a
