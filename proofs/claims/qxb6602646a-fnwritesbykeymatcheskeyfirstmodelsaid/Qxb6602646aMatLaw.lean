/-
  The plain law of FnWritesByKeyMatchesKeyFirstModel: a key's list, mention by mention.
-/
import Derived.Test.Qxb6602646aWk
import Derived.Test.Qxb6602646aScrLaw
namespace Go.Proofs.Qxb6602646a

/-- One mention of a writer at the end of a key's list. -/
def swApp (s p : Int) (E : List (Int × List Int)) : List (Int × List Int) :=
  match E.getLast? with
  | some (q, pl) => if q = s then E.dropLast ++ [(q, pl ++ [p])] else E ++ [(s, [p])]
  | none => [(s, [p])]
theorem swApp_nil (s p : Int) : swApp s p [] = [(s, [p])] := rfl
theorem swApp_same (s p : Int) (E : List (Int × List Int)) (pl : List Int) : swApp s p (E ++ [(s, pl)]) = E ++ [(s, pl ++ [p])] := by
  unfold swApp
  simp
theorem swApp_other (s p q : Int) (E : List (Int × List Int)) (pl : List Int) (h : q ≠ s) : swApp s p (E ++ [(q, pl)]) = E ++ [(q, pl)] ++ [(s, [p])] := by
  unfold swApp
  simp [h]
theorem list_end {α : Type} (l : List α) : l = [] ∨ ∃ a e, l = a ++ [e] := by
  cases h : l.reverse with
  | nil => exact .inl (by simpa using h)
  | cons e a => exact .inr ⟨a.reverse, e, by have := congrArg List.reverse h; simpa using this⟩
theorem swApp_form (s p : Int) (E : List (Int × List Int)) : ∃ E0 pl, swApp s p E = E0 ++ [(s, pl ++ [p])] := by
  rcases list_end E with rfl | ⟨a, ⟨q, pl⟩, rfl⟩
  · exact ⟨[], [], rfl⟩
  · by_cases h : q = s
    · subst h; exact ⟨a, pl, swApp_same q p a pl⟩
    · exact ⟨a ++ [(q, pl)], [], swApp_other s p q a pl h⟩
/-- The list's last entry lies before place p of session s. -/
def Bef (s p : Int) (E : List (Int × List Int)) : Prop := ∀ E0 q pl, E = E0 ++ [(q, pl)] → q < s ∨ (q = s ∧ ∀ x ∈ pl, x < p)
theorem Bef.nil (s p : Int) : Bef s p [] := fun E0 q pl h => by
  have := congrArg List.length h
  simp at this
theorem Bef.mono {s p p' : Int} {E : List (Int × List Int)} (h : Bef s p E) (hp : p ≤ p') : Bef s p' E := fun E0 q pl e => by
  rcases h E0 q pl e with h | ⟨h1, h2⟩
  · exact .inl h
  · exact .inr ⟨h1, fun x hx => Int.lt_of_lt_of_le (h2 x hx) hp⟩
theorem Bef.next {s p p' : Int} {E : List (Int × List Int)} (h : Bef s p E) : Bef (s + 1) p' E := fun E0 q pl e => by
  rcases h E0 q pl e with h | ⟨h1, h2⟩
  · exact .inl (by omega)
  · exact .inl (by omega)
theorem snoc_inj {α : Type} {a b : List α} {x y : α} (h : a ++ [x] = b ++ [y]) : a = b ∧ x = y := by
  have h1 := congrArg List.reverse h
  simp at h1
  exact ⟨h1.2, h1.1⟩
theorem Bef.app {s p : Int} {E : List (Int × List Int)} (h : Bef s p E) : Bef s (p + 1) (swApp s p E) := by
  intro E0 q pl e
  rcases list_end E with rfl | ⟨a, ⟨q', pl'⟩, rfl⟩
  · rw [swApp_nil] at e
    obtain ⟨_, e2⟩ := snoc_inj (a := []) e
    cases e2
    exact .inr ⟨rfl, fun x hx => by simp at hx; omega⟩
  · by_cases hq : q' = s
    · subst hq
      rw [swApp_same] at e
      obtain ⟨_, e2⟩ := snoc_inj e
      cases e2
      refine .inr ⟨rfl, fun x hx => ?_⟩
      rcases h a _ pl' rfl with h | ⟨_, h2⟩
      · omega
      · rcases List.mem_append.1 hx with hx | hx
        · have := h2 x hx; omega
        · simp at hx; omega
    · rw [swApp_other s p q' a pl' hq] at e
      obtain ⟨_, e2⟩ := snoc_inj e
      cases e2
      exact .inr ⟨rfl, fun x hx => by simp at hx; omega⟩
theorem getLast_ne {pl : List Int} {p : Int} (h : ∀ x ∈ pl, x < p) : pl.getLast? ≠ some p := fun e => by
  have := h p (List.mem_of_getLast? e)
  omega
theorem swAdd_app {s p : Int} {E : List (Int × List Int)} (h : Bef s p E) : swAdd s p E = swApp s p E := by
  rcases list_end E with rfl | ⟨a, ⟨q, pl⟩, rfl⟩
  · rfl
  · by_cases hq : q = s
    · subst hq
      rw [swAdd_snoc_same, swApp_same]
      unfold snocP
      rcases h a _ pl rfl with h | ⟨_, h2⟩
      · omega
      · rw [if_neg (getLast_ne h2)]
    · rw [swAdd_snoc_other s p q a pl hq, swApp_other s p q a pl hq]
theorem swAdd_again (s p : Int) (E : List (Int × List Int)) : swAdd s p (swApp s p E) = swApp s p E := by
  obtain ⟨E0, pl, e⟩ := swApp_form s p E
  rw [e, swAdd_snoc_same]
  unfold snocP
  simp

/-- The key's list, mention by mention. -/
def mstep (T : List PTxn) (k : Int) (E : List (Int × List Int)) (m : PMen) : List (Int × List Int) := if writesK (opsOf T m.t) k then swApp m.s m.p E else E
def mApp (T : List PTxn) (k : Int) (ms : List PMen) : List (Int × List Int) := ms.foldl (mstep T k) []
def atK (A : List (Int × List (Int × List Int))) (k : Int) : List (Int × List Int) := (lkG A k).getD []
theorem atK_step (A : List (Int × List (Int × List Int))) (k : Int) (e : Ev) : atK (evStep A e) k = if (e.o.kind == 1 && e.o.key == k) then swAdd e.s e.p (atK A k) else atK A k := by
  unfold evStep atK
  by_cases h1 : e.o.kind = 1
  · rw [if_pos h1, lkG_upG]
    by_cases h2 : e.o.key = k
    · subst h2; simp [h1]
    · simp [h2]
  · simp [h1]
/-- All operations of one mention. -/
theorem atK_ops (k : Int) (s p : Nat) (ops : List POp) : ∀ A, (Bef s p (atK A k) ∨ ∃ E, atK A k = swApp s p E) →
    atK ((ops.map fun o => (⟨s, p, o⟩ : Ev)).foldl evStep A) k = if writesK ops k then swAdd s p (atK A k) else atK A k := by
  induction ops with
  | nil => intro A _; rfl
  | cons o ops ih =>
    intro A hA
    rw [List.map_cons, List.foldl_cons]
    by_cases h : (o.kind == 1 && o.key == k) = true
    · have e1 : atK (evStep A ⟨s, p, o⟩) k = swAdd s p (atK A k) := by rw [atK_step]; simp only [h, if_true]
      have e2 : writesK (o :: ops) k = true := by simp only [writesK, List.any_cons, h, Bool.true_or]
      have e3 : ∃ E, swAdd s p (atK A k) = swApp s p E := by
        rcases hA with h0 | ⟨E, h0⟩
        · exact ⟨_, swAdd_app h0⟩
        · exact ⟨E, by rw [h0, swAdd_again]⟩
      rw [ih _ (.inr (by rw [e1]; exact e3)), e1, e2, if_pos rfl]
      obtain ⟨E, e4⟩ := e3
      rw [e4, swAdd_again]
      split <;> rfl
    · have e1 : atK (evStep A ⟨s, p, o⟩) k = atK A k := by rw [atK_step]; simp only [h]; rfl
      have e2 : writesK (o :: ops) k = writesK ops k := by simp only [writesK, List.any_cons, Bool.eq_false_iff.2 h, Bool.false_or]
      rw [ih _ (by rw [e1]; exact hA), e1, e2]
theorem mApp_snoc (T : List PTxn) (k : Int) (a : List PMen) (m : PMen) : mApp T k (a ++ [m]) = mstep T k (mApp T k a) m := by unfold mApp; rw [List.foldl_append]; rfl
theorem writesK_nil (k : Int) : writesK [] k = false := rfl
theorem atK_pl (T : List PTxn) (XS : List (List Int)) (key : Int) (k : Nat) (h0 : atK (wbOf (seF T XS k)) key = mApp T key (seM T XS k) ∧ Bef k 0 (mApp T key (seM T XS k))) :
    ∀ m, atK (wbOf (seF T XS k ++ plF T k (XS.getD k []) m)) key = mApp T key (atM T XS k m) ∧ Bef k m (mApp T key (atM T XS k m)) := by
  intro m
  induction m with
  | zero => simpa [atM, plM, plF] using h0
  | succ m ih =>
    obtain ⟨h1, h2⟩ := ih
    have e1 : wbOf (seF T XS k ++ plF T k (XS.getD k []) (m + 1)) = ((opsOf T ((XS.getD k []).getD m 0)).map fun o => (⟨k, m, o⟩ : Ev)).foldl evStep (wbOf (seF T XS k ++ plF T k (XS.getD k []) m)) := by
      rw [plF, ← List.append_assoc]
      unfold wbOf
      rw [List.foldl_append]
    rw [e1, atK_ops key k m _ _ (.inl (by rw [h1]; exact h2)), h1]
    have e2 : atM T XS k (m + 1) = atM T XS k m ++ (if 0 < (opsOf T ((XS.getD k []).getD m 0)).length then [⟨k, m, (XS.getD k []).getD m 0⟩] else []) := by
      unfold atM
      rw [plM, List.append_assoc]
    rw [e2]
    by_cases hz : 0 < (opsOf T ((XS.getD k []).getD m 0)).length
    · rw [if_pos hz, mApp_snoc]
      unfold mstep
      simp only
      by_cases hw : writesK (opsOf T ((XS.getD k []).getD m 0)) key = true
      · rw [if_pos hw, if_pos hw, swAdd_app h2]
        refine ⟨rfl, ?_⟩
        have := h2.app
        simpa using this
      · rw [if_neg hw, if_neg hw]
        exact ⟨rfl, h2.mono (by omega)⟩
    · have e3 : opsOf T ((XS.getD k []).getD m 0) = [] := List.eq_nil_of_length_eq_zero (by omega)
      rw [if_neg hz, List.append_nil, e3, writesK_nil, if_neg (by simp)]
      exact ⟨rfl, h2.mono (by omega)⟩
theorem atK_se (T : List PTxn) (XS : List (List Int)) (key : Int) : ∀ k, atK (wbOf (seF T XS k)) key = mApp T key (seM T XS k) ∧ Bef k 0 (mApp T key (seM T XS k)) := by
  intro k
  induction k with
  | zero => exact ⟨rfl, Bef.nil _ _⟩
  | succ k ih =>
    obtain ⟨h1, h2⟩ := atK_pl T XS key k ih (XS.getD k []).length
    rw [seF, seM]
    refine ⟨h1, ?_⟩
    have e : ((k + 1 : Nat) : Int) = (k : Int) + 1 := by simp
    rw [e]
    exact h2.next
/-- THE LAW: what the map holds of a key is what the mentions say. -/
theorem lk_mentions (T : List PTxn) (XS : List (List Int)) (key : Int) (k : Nat) {E : List (Int × List Int)} (h : lkG (wbOf (seF T XS k)) key = some E) : E = mApp T key (seM T XS k) := by
  have := (atK_se T XS key k).1
  unfold atK at this
  rw [h] at this
  exact this

/-! ### A list that goes on -/
def Goes (E1 E : List (Int × List Int)) : Prop := ∀ E0 s pl, E1 = E0 ++ [(s, pl)] → ∃ pl' R, E = E0 ++ (s, pl ++ pl') :: R
theorem Goes.refl (E : List (Int × List Int)) : Goes E E := fun E0 s pl h => ⟨[], [], by simpa using h⟩
theorem Goes.app {s p : Int} {E1 E : List (Int × List Int)} (h : Goes (swApp s p E1) E) : Goes E1 E := by
  intro E0 q pl e
  subst e
  by_cases hq : q = s
  · subst hq
    rw [swApp_same] at h
    obtain ⟨pl', R, e⟩ := h E0 _ _ rfl
    exact ⟨[p] ++ pl', R, by rw [e, List.append_assoc]⟩
  · rw [swApp_other s p q E0 pl hq] at h
    obtain ⟨pl', R, e⟩ := h _ _ _ rfl
    exact ⟨[], (s, [p] ++ pl') :: R, by rw [e]; simp⟩
theorem Goes.step {T : List PTxn} {k : Int} {E1 E : List (Int × List Int)} {m : PMen} (h : Goes (mstep T k E1 m) E) : Goes E1 E := by
  unfold mstep at h
  split at h
  · exact h.app
  · exact h
theorem goes_fold (T : List PTxn) (k : Int) (ms : List PMen) : ∀ E1, Goes E1 (ms.foldl (mstep T k) E1) := by
  induction ms with
  | nil => intro E1; exact Goes.refl _
  | cons m ms ih => intro E1; exact (ih (mstep T k E1 m)).step
theorem goes_take (T : List PTxn) (k : Int) (ms : List PMen) (i : Nat) : Goes (mApp T k (ms.take i)) (mApp T k ms) := by
  have : mApp T k ms = (ms.drop i).foldl (mstep T k) (mApp T k (ms.take i)) := by
    unfold mApp
    rw [← List.foldl_append, List.take_append_drop]
  rw [this]
  exact goes_fold T k _ _
theorem mApp_take (T : List PTxn) (k : Int) (ms : List PMen) (i : Nat) (h : i < ms.length) : mApp T k (ms.take (i + 1)) = mstep T k (mApp T k (ms.take i)) ms[i] := by
  rw [List.take_succ_eq_append_getElem h, mApp_snoc]
/-- The entry that the place was put to, in the whole list. -/
theorem goes_at {E0 E : List (Int × List Int)} {s p : Int} {pl : List Int} {n0 n1 : Nat} (h : Goes (E0 ++ [(s, pl ++ [p])]) E) (e0 : n0 = E0.length) (e1 : n1 = pl.length) : ∃ (h1 : n0 < E.length), (E[n0]).1 = s ∧ ∃ (h2 : n1 < (E[n0]).2.length), (E[n0]).2[n1] = p := by
  obtain ⟨pl', R, e⟩ := h E0 s _ rfl
  subst e e0 e1
  refine ⟨by simp, ?_, ?_, ?_⟩
  · simp
  · simp
  · simp
/-- The entry before a new one is whole. -/
theorem goes_whole {E0 E : List (Int × List Int)} {q s p : Int} {pl : List Int} {n0 n1 : Nat} (h : Goes (E0 ++ [(q, pl)] ++ [(s, [p])]) E) (e0 : n0 = E0.length) (e1 : n1 = pl.length) : ∃ (h1 : n0 < E.length), (E[n0]).2.length = n1 := by
  obtain ⟨pl', R, e⟩ := h _ s _ rfl
  subst e e0 e1
  refine ⟨by simp, ?_⟩
  simp
end Go.Proofs.Qxb6602646a
