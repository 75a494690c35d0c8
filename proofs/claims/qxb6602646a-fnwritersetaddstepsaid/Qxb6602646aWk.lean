/-
  The plain laws of the map of writes by key: reads, values and ids do not count; its keys.
-/
import Derived.Test.Qxb6602646aWbLaw
namespace Go.Proofs.Qxb6602646a

def stripOp (o : POp) : POp := ⟨o.kind, o.key, 0⟩
def stripOps (l : List POp) : List POp := (l.filter fun o => o.kind == 1).map stripOp
def stripT (T : List PTxn) : List PTxn := T.map fun t => ⟨0, 0, stripOps t.ops⟩
theorem opsOf_strip (T : List PTxn) (t : Int) : opsOf (stripT T) t = stripOps (opsOf T t) := by
  unfold opsOf stripT
  rw [List.getElem?_map]
  cases T[t.toNat]? <;> rfl
theorem fold_strip (s p : Nat) (l : List POp) : ∀ A, ((stripOps l).map fun o => (⟨s, p, o⟩ : Ev)).foldl evStep A = (l.map fun o => (⟨s, p, o⟩ : Ev)).foldl evStep A := by
  induction l with
  | nil => intro A; rfl
  | cons o l ih =>
    intro A
    by_cases h : o.kind = 1
    · have e : stripOps (o :: l) = stripOp o :: stripOps l := by simp [stripOps, h]
      rw [e, List.map_cons, List.map_cons, List.foldl_cons, List.foldl_cons, ih]
      rfl
    · have e : stripOps (o :: l) = stripOps l := by simp [stripOps, h]
      have e2 : evStep A ⟨s, p, o⟩ = A := by unfold evStep; rw [if_neg h]
      rw [e, ih, List.map_cons, List.foldl_cons, e2]
theorem plF_strip (T : List PTxn) (s : Nat) (txns : List Int) : ∀ m A, (plF (stripT T) s txns m).foldl evStep A = (plF T s txns m).foldl evStep A := by
  intro m
  induction m with
  | zero => intro A; rfl
  | succ m ih => intro A; rw [plF, plF, List.foldl_append, List.foldl_append, ih, opsOf_strip, fold_strip]
theorem seF_strip (T : List PTxn) (XS : List (List Int)) : ∀ k A, (seF (stripT T) XS k).foldl evStep A = (seF T XS k).foldl evStep A := by
  intro k
  induction k with
  | zero => intro A; rfl
  | succ k ih => intro A; rw [seF, seF, List.foldl_append, List.foldl_append, ih, plF_strip]
theorem wbOf_strip (T : List PTxn) (XS : List (List Int)) (k : Nat) : wbOf (seF (stripT T) XS k) = wbOf (seF T XS k) := seF_strip T XS k []
theorem stripOps_length (l : List POp) : (stripOps l).length ≤ l.length := by
  unfold stripOps
  rw [List.length_map]
  exact List.length_filter_le _ _
theorem plF_strip_length (T : List PTxn) (s : Nat) (txns : List Int) : ∀ m, (plF (stripT T) s txns m).length ≤ (plF T s txns m).length := by
  intro m
  induction m with
  | zero => exact Nat.le_refl _
  | succ m ih =>
    rw [plF, plF, List.length_append, List.length_append, List.length_map, List.length_map, opsOf_strip]
    have := stripOps_length (opsOf T (txns.getD m 0))
    omega
theorem seF_strip_length (T : List PTxn) (XS : List (List Int)) : ∀ k, (seF (stripT T) XS k).length ≤ (seF T XS k).length := by
  intro k
  induction k with
  | zero => exact Nat.le_refl _
  | succ k ih =>
    rw [seF, seF, List.length_append, List.length_append]
    have := plF_strip_length T k (XS.getD k []) (XS.getD k []).length
    omega
theorem opsSum_strip (T : List PTxn) : opsSum (stripT T) ≤ opsSum T := by
  induction T with
  | nil => exact Nat.le_refl _
  | cons t T ih =>
    have := stripOps_length t.ops
    simp only [opsSum, stripT, List.map_cons, List.sum_cons] at ih ⊢
    omega
theorem stripT_length (T : List PTxn) : (stripT T).length = T.length := by simp [stripT]

/-! ### The keys -/
theorem mem_upG {α : Type} (M : List (Int × α)) (k : Int) (v : α) (x : Int) : x ∈ (upG M k v).map (fun p => p.1) ↔ x ∈ M.map (fun p => p.1) ∨ x = k := by
  induction M with
  | nil => simp [upG]
  | cons p M ih =>
    unfold upG
    by_cases h : p.1 = k
    · rw [if_pos h]
      simp only [List.map_cons, List.mem_cons, h]
      constructor
      · rintro (a | a)
        · exact .inr a
        · exact .inl (.inr a)
      · rintro ((a | a) | a)
        · exact .inl a
        · exact .inr a
        · exact .inl a
    · rw [if_neg h]
      simp only [List.map_cons, List.mem_cons, ih]
      exact or_assoc.symm
theorem nodup_upG {α : Type} {M : List (Int × α)} (h : (M.map fun p => p.1).Nodup) (k : Int) (v : α) : ((upG M k v).map fun p => p.1).Nodup := by
  induction M with
  | nil => simp [upG]
  | cons p M ih =>
    rw [List.map_cons, List.nodup_cons] at h
    unfold upG
    by_cases e : p.1 = k
    · rw [if_pos e, List.map_cons, List.nodup_cons]
      exact ⟨by rw [← e]; exact h.1, h.2⟩
    · rw [if_neg e, List.map_cons, List.nodup_cons]
      refine ⟨fun hm => ?_, ih h.2⟩
      rcases (mem_upG M k v p.1).1 hm with a | a
      · exact h.1 a
      · exact e a
def wkO (l : List POp) : List Int := (l.filter fun o => o.kind == 1).map fun o => o.key
def wk (F : List Ev) : List Int := wkO (F.map fun e => e.o)
theorem wkO_append (a b : List POp) : wkO (a ++ b) = wkO a ++ wkO b := by simp [wkO]
theorem wkO_length (l : List POp) : (wkO l).length ≤ l.length := by
  unfold wkO
  rw [List.length_map]
  exact List.length_filter_le _ _
theorem wk_append (a b : List Ev) : wk (a ++ b) = wk a ++ wk b := by unfold wk; rw [List.map_append, wkO_append]
theorem wk_length (F : List Ev) : (wk F).length ≤ F.length := by
  have := wkO_length (F.map fun e => e.o)
  rwa [List.length_map] at this
theorem fold_keys (F : List Ev) : ∀ A x, x ∈ (F.foldl evStep A).map (fun p => p.1) ↔ x ∈ A.map (fun p => p.1) ∨ x ∈ wk F := by
  induction F with
  | nil => intro A x; simp [wk, wkO]
  | cons e F ih =>
    intro A x
    rw [List.foldl_cons, ih]
    unfold evStep
    by_cases h : e.o.kind = 1
    · have e2 : wk (e :: F) = e.o.key :: wk F := by simp [wk, wkO, h]
      rw [if_pos h, mem_upG, e2, List.mem_cons]
      exact or_assoc
    · have e2 : wk (e :: F) = wk F := by simp [wk, wkO, h]
      rw [if_neg h, e2]
theorem fold_nodup (F : List Ev) : ∀ A : List (Int × List (Int × List Int)), (A.map fun p => p.1).Nodup → ((F.foldl evStep A).map fun p => p.1).Nodup := by
  induction F with
  | nil => intro A h; exact h
  | cons e F ih =>
    intro A h
    rw [List.foldl_cons]
    refine ih _ ?_
    unfold evStep
    split
    · exact nodup_upG h _ _
    · exact h
theorem wbOf_keys (F : List Ev) (x : Int) : x ∈ (wbOf F).map (fun p => p.1) ↔ x ∈ wk F := by
  unfold wbOf
  rw [fold_keys]
  simp
theorem wbOf_nodup (F : List Ev) : ((wbOf F).map fun p => p.1).Nodup := fold_nodup F [] (by simp)
theorem wbOf_count (F : List Ev) (l : List Int) (h1 : l.Nodup) (h2 : ∀ x, x ∈ l ↔ x ∈ wk F) : (wbOf F).length = l.length := by
  have := length_eq_of_same _ _ (wbOf_nodup F) h1 (fun x => (wbOf_keys F x).trans (h2 x).symm)
  rwa [List.length_map] at this
theorem lkG_of_mem {α : Type} (M : List (Int × α)) (k : Int) (h : k ∈ M.map (fun p => p.1)) : ∃ v, lkG M k = some v := by
  induction M with
  | nil => simp at h
  | cons p M ih =>
    unfold lkG
    by_cases e : p.1 = k
    · exact ⟨p.2, by rw [if_pos e]⟩
    · rw [if_neg e]
      rw [List.map_cons, List.mem_cons] at h
      rcases h with h | h
      · exact absurd h.symm e
      · exact ih h

/-! ### The mentions -/
structure PMen where
  s : Nat
  p : Nat
  t : Int
def plM (T : List PTxn) (s : Nat) (txns : List Int) : Nat → List PMen
  | 0 => []
  | m + 1 => plM T s txns m ++ (if 0 < (opsOf T (txns.getD m 0)).length then [⟨s, m, txns.getD m 0⟩] else [])
def seM (T : List PTxn) (XS : List (List Int)) : Nat → List PMen
  | 0 => []
  | k + 1 => seM T XS k ++ plM T k (XS.getD k []) (XS.getD k []).length
/-- The mentions behind k sessions and m places. -/
def atM (T : List PTxn) (XS : List (List Int)) (k m : Nat) : List PMen := seM T XS k ++ plM T k (XS.getD k []) m
def ksOf (T : List PTxn) (ms : List PMen) : List Int := ms.flatMap fun m => wkO (opsOf T m.t)
theorem ksOf_append (T : List PTxn) (a b : List PMen) : ksOf T (a ++ b) = ksOf T a ++ ksOf T b := by simp [ksOf]
theorem ks_plM (T : List PTxn) (s : Nat) (txns : List Int) : ∀ m, ksOf T (plM T s txns m) = wk (plF T s txns m) := by
  intro m
  induction m with
  | zero => rfl
  | succ m ih =>
    rw [plM, plF, ksOf_append, wk_append, ih]
    congr 1
    have e : wk ((opsOf T (txns.getD m 0)).map fun o => (⟨s, m, o⟩ : Ev)) = wkO (opsOf T (txns.getD m 0)) := by
      unfold wk
      rw [List.map_map]
      congr 1
      exact List.map_id _
    rw [e]
    split
    · simp [ksOf]
    · rename_i h
      have : opsOf T (txns.getD m 0) = [] := List.eq_nil_of_length_eq_zero (by omega)
      rw [this]; rfl
theorem ks_seM (T : List PTxn) (XS : List (List Int)) : ∀ k, ksOf T (seM T XS k) = wk (seF T XS k) := by
  intro k
  induction k with
  | zero => rfl
  | succ k ih => rw [seM, seF, ksOf_append, wk_append, ih, ks_plM]
theorem plM_length (T : List PTxn) (s : Nat) (txns : List Int) : ∀ m, (plM T s txns m).length ≤ (plF T s txns m).length := by
  intro m
  induction m with
  | zero => exact Nat.le_refl _
  | succ m ih =>
    rw [plM, plF, List.length_append, List.length_append, List.length_map]
    split
    · simp only [List.length_cons, List.length_nil]; omega
    · simp only [List.length_nil]; omega
theorem seM_length (T : List PTxn) (XS : List (List Int)) : ∀ k, (seM T XS k).length ≤ (seF T XS k).length := by
  intro k
  induction k with
  | zero => exact Nat.le_refl _
  | succ k ih =>
    rw [seM, seF, List.length_append, List.length_append]
    have := plM_length T k (XS.getD k []) (XS.getD k []).length
    omega
theorem atM_zero (T : List PTxn) (XS : List (List Int)) (k : Nat) : atM T XS k 0 = seM T XS k := by simp [atM, plM]
theorem atM_done (T : List PTxn) (XS : List (List Int)) (k : Nat) : atM T XS k (XS.getD k []).length = seM T XS (k + 1) := rfl
theorem atM_le (T : List PTxn) (XS : List (List Int)) {k m : Nat} (hk : k < XS.length) (hm : m ≤ (XS.getD k []).length) : (atM T XS k m).length ≤ (seF T XS XS.length).length := by
  have h1 := seF_mono T XS (show k + 1 ≤ XS.length by omega)
  have h2 := plF_mono T k (XS.getD k []) hm
  have h3 := seM_length T XS k
  have h4 := plM_length T k (XS.getD k []) m
  rw [seF, List.length_append] at h1
  unfold atM
  rw [List.length_append]
  omega
/-- Every mention is of a transaction that is there. -/
theorem plM_ok (T : List PTxn) (s : Nat) (txns : List Int) (h : ∀ t ∈ txns, 0 ≤ t ∧ t < T.length) : ∀ m, m ≤ txns.length → ∀ x ∈ plM T s txns m, 0 ≤ x.t ∧ x.t < T.length := by
  intro m
  induction m with
  | zero => intro _ x hx; cases hx
  | succ m ih =>
    intro hm x hx
    rw [plM] at hx
    rcases List.mem_append.1 hx with hx | hx
    · exact ih (by omega) x hx
    · split at hx
      · simp at hx
        subst hx
        have e : txns.getD m 0 = txns[m] := by simp [List.getD, show m < txns.length by omega]
        simp only [← List.getD_eq_getElem?_getD, e]
        exact h _ (List.getElem_mem _)
      · cases hx
theorem seM_ok (T : List PTxn) (XS : List (List Int)) (h : ∀ l ∈ XS, ∀ t ∈ l, 0 ≤ t ∧ t < T.length) : ∀ k, k ≤ XS.length → ∀ x ∈ seM T XS k, 0 ≤ x.t ∧ x.t < T.length := by
  intro k
  induction k with
  | zero => intro _ x hx; cases hx
  | succ k ih =>
    intro hk x hx
    rw [seM] at hx
    rcases List.mem_append.1 hx with hx | hx
    · exact ih (by omega) x hx
    · have e : XS.getD k [] = XS[k] := by simp [List.getD, show k < XS.length by omega]
      rw [e] at hx
      exact plM_ok T k XS[k] (h _ (List.getElem_mem _)) _ (Nat.le_refl _) x hx
end Go.Proofs.Qxb6602646a
