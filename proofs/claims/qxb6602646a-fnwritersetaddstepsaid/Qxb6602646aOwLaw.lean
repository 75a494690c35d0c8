/-
  The plain law of overwrittenWrites: no Go in sight.
-/
import Derived.Test.Qxb6602646aOw
import Derived.Test.Qxb6602646aSort
namespace Go.Proofs.Qxb6602646a

theorem lkG_upG {κ α : Type} [DecidableEq κ] (M : List (κ × α)) (k k' : κ) (v : α) : lkG (upG M k v) k' = if k = k' then some v else lkG M k' := by
  induction M with
  | nil => simp [upG, lkG]
  | cons p M ih =>
    unfold upG
    by_cases h : p.1 = k
    · rw [if_pos h]
      by_cases h2 : k = k' <;> simp [lkG, h, h2]
    · rw [if_neg h]
      by_cases h2 : k = k'
      · subst h2; simp [lkG, h, ih]
      · by_cases h3 : p.1 = k' <;> simp [lkG, h2, h3, ih]
theorem mem_ins (L : List (Int × Int)) (p q : Int × Int) : q ∈ ins L p ↔ q ∈ L ∨ q = p := by
  unfold ins
  split
  · constructor
    · exact .inl
    · rintro (h | rfl) <;> assumption
  · simp
theorem nodup_ins {L : List (Int × Int)} (h : L.Nodup) (p : Int × Int) : (ins L p).Nodup := by
  unfold ins
  split
  · exact h
  · rename_i hn
    rw [List.nodup_append]
    exact ⟨h, by simp, fun a ha b hb => by simp at hb; subst hb; exact fun e => hn (e ▸ ha)⟩

section
variable (O : Nat → POp)
def Wr (i : Nat) (k : Int) : Prop := (O i).kind = 1 ∧ (O i).key = k
/-- p was written over, among the first m operations. -/
def OvB (m : Nat) (p : Int × Int) : Prop := ∃ i j, i < j ∧ j < m ∧ (O i).kind = 1 ∧ Wr O j (O i).key ∧ p = ((O i).key, (O i).val)
structure OwInv (L0 : List (Int × Int)) (m : Nat) (s : List (Int × Int) × List (Int × Int)) : Prop where
  none : ∀ k, lkG s.1 k = none ↔ ∀ i, i < m → ¬ Wr O i k
  some : ∀ k v, lkG s.1 k = some v → ∃ i, i < m ∧ Wr O i k ∧ (O i).val = v ∧ ∀ j, i < j → j < m → ¬ Wr O j k
  mem : ∀ p, p ∈ s.2 ↔ p ∈ L0 ∨ OvB O m p
  nodup : L0.Nodup → s.2.Nodup
theorem owInv_zero (L0 : List (Int × Int)) : OwInv O L0 0 ([], L0) :=
  ⟨fun k => ⟨fun _ i hi => by omega, fun _ => rfl⟩, fun k v h => by simp [lkG] at h, fun p => ⟨.inl, fun h => by
    rcases h with h | ⟨i, j, h1, h2, _⟩
    · exact h
    · omega⟩, id⟩
theorem owInv_step {L0 : List (Int × Int)} {m : Nat} {s : List (Int × Int) × List (Int × Int)} (h : OwInv O L0 m s) : OwInv O L0 (m + 1) (owStep s (O m)) := by
  obtain ⟨h1, h2, h3, h4⟩ := h
  by_cases hk : (O m).kind = 1
  · have e1 : (owStep s (O m)).1 = upG s.1 (O m).key (O m).val := by simp [owStep, hk]
    have hWm : Wr O m (O m).key := ⟨hk, rfl⟩
    refine ⟨fun k => ?_, fun k v hv => ?_, fun p => ?_, fun hd => ?_⟩
    · rw [e1, lkG_upG]
      by_cases e : (O m).key = k
      · rw [if_pos e]
        exact ⟨fun h => (by cases h), fun h => absurd (e ▸ hWm) (h m (by omega))⟩
      · rw [if_neg e, h1 k]
        constructor
        · intro h i hi
          by_cases him : i = m
          · subst him; exact fun hw => e hw.2
          · exact h i (by omega)
        · exact fun h i hi => h i (by omega)
    · rw [e1, lkG_upG] at hv
      by_cases e : (O m).key = k
      · rw [if_pos e] at hv
        exact ⟨m, by omega, e ▸ hWm, by simpa using hv, fun j h1 h2 => by omega⟩
      · rw [if_neg e] at hv
        obtain ⟨i, a1, a2, a3, a4⟩ := h2 k v hv
        refine ⟨i, by omega, a2, a3, fun j b1 b2 => ?_⟩
        by_cases hjm : j = m
        · subst hjm; exact fun hw => e hw.2
        · exact a4 j b1 (by omega)
    · -- what the step notes
      have key : OvB O (m + 1) p ↔ OvB O m p ∨ ∃ i, i < m ∧ (O i).kind = 1 ∧ Wr O m (O i).key ∧ p = ((O i).key, (O i).val) := by
        constructor
        · rintro ⟨i, j, b1, b2, b3, b4, b5⟩
          by_cases e : j = m
          · subst e; exact .inr ⟨i, b1, b3, b4, b5⟩
          · exact .inl ⟨i, j, b1, by omega, b3, b4, b5⟩
        · rintro (⟨i, j, b1, b2, b3, b4, b5⟩ | ⟨i, b1, b3, b4, b5⟩)
          · exact ⟨i, j, b1, by omega, b3, b4, b5⟩
          · exact ⟨i, m, b1, by omega, b3, b4, b5⟩
      cases hl : lkG s.1 (O m).key with
      | none =>
        have e2 : (owStep s (O m)).2 = s.2 := by simp [owStep, hk, hl]
        rw [e2, h3 p, key]
        constructor
        · rintro (a | a)
          · exact .inl a
          · exact .inr (.inl a)
        · rintro (a | a | ⟨i, b1, b3, b4, b5⟩)
          · exact .inl a
          · exact .inr a
          · exact absurd ⟨b3, b4.2.symm⟩ ((h1 _).1 hl i b1)
      | some b =>
        have e2 : (owStep s (O m)).2 = ins s.2 ((O m).key, b) := by simp [owStep, hk, hl]
        obtain ⟨i0, a1, a2, a3, a4⟩ := h2 _ b hl
        rw [e2, mem_ins, h3 p, key]
        constructor
        · rintro ((a | a) | a)
          · exact .inl a
          · exact .inr (.inl a)
          · exact .inr (.inr ⟨i0, a1, a2.1, ⟨hk, a2.2.symm⟩, by rw [a, a2.2, a3]⟩)
        · rintro (a | a | ⟨i, b1, b3, b4, b5⟩)
          · exact .inl (.inl a)
          · exact .inl (.inr a)
          · rcases Nat.lt_trichotomy i i0 with hi | hi | hi
            · exact .inl (.inr ⟨i, i0, hi, a1, b3, ⟨a2.1, a2.2.trans b4.2⟩, b5⟩)
            · subst hi
              exact .inr (by rw [b5, a3, a2.2])
            · exact absurd ⟨b3, b4.2.symm⟩ (a4 i hi b1)
    · have := h4 hd
      unfold owStep
      rw [if_pos hk]
      dsimp only
      split
      · exact nodup_ins this _
      · exact this
  · have e0 : owStep s (O m) = s := by simp [owStep, hk]
    rw [e0]
    refine ⟨fun k => ?_, fun k v hv => ?_, fun p => ?_, h4⟩
    · rw [h1 k]
      constructor
      · intro h i hi
        by_cases him : i = m
        · subst him; exact fun hw => hk hw.1
        · exact h i (by omega)
      · exact fun h i hi => h i (by omega)
    · obtain ⟨i, a1, a2, a3, a4⟩ := h2 k v hv
      refine ⟨i, by omega, a2, a3, fun j b1 b2 => ?_⟩
      by_cases hjm : j = m
      · subst hjm; exact fun hw => hk hw.1
      · exact a4 j b1 (by omega)
    · rw [h3 p]
      constructor
      · rintro (a | ⟨i, j, b1, b2, b3, b4, b5⟩)
        · exact .inl a
        · exact .inr ⟨i, j, b1, by omega, b3, b4, b5⟩
      · rintro (a | ⟨i, j, b1, b2, b3, b4, b5⟩)
        · exact .inl a
        · refine .inr ⟨i, j, b1, ?_, b3, b4, b5⟩
          by_cases hjm : j = m
          · subst hjm; exact absurd b4.1 hk
          · omega
end

def opAt (ops : List POp) (i : Nat) : POp := ops.getD i ⟨0, 0, 0⟩
theorem opAt_eq (ops : List POp) (i : Nat) (h : i < ops.length) : opAt ops i = ops[i] := by simp [opAt, h]
theorem owInv_ops (ops : List POp) (L0 : List (Int × Int)) : ∀ m, m ≤ ops.length → OwInv (opAt ops) L0 m ((ops.take m).foldl owStep ([], L0)) := by
  intro m
  induction m with
  | zero => intro _; exact owInv_zero _ _
  | succ m ih =>
    intro h
    rw [foldl_snoc _ _ _ _ h, ← opAt_eq ops m h]
    exact owInv_step _ (ih (by omega))
/-- One transaction's part. -/
theorem mem_owTxn (L : List (Int × Int)) (t : PTxn) (p : Int × Int) : p ∈ owTxn L t ↔ p ∈ L ∨ OvB (opAt t.ops) t.ops.length p := by
  have h := owInv_ops t.ops L t.ops.length (Nat.le_refl _)
  rw [List.take_of_length_le (Nat.le_refl _)] at h
  exact h.mem p
theorem nodup_owTxn {L : List (Int × Int)} (hL : L.Nodup) (t : PTxn) : (owTxn L t).Nodup := by
  have h := owInv_ops t.ops L t.ops.length (Nat.le_refl _)
  rw [List.take_of_length_le (Nat.le_refl _)] at h
  exact h.nodup hL
theorem mem_owAll (T : List PTxn) (p : Int × Int) : ∀ L, p ∈ T.foldl owTxn L ↔ p ∈ L ∨ ∃ t ∈ T, OvB (opAt t.ops) t.ops.length p := by
  induction T with
  | nil => intro L; simp
  | cons t T ih =>
    intro L
    rw [List.foldl_cons, ih, mem_owTxn]
    simp only [List.mem_cons]
    constructor
    · rintro ((a | a) | ⟨t', h1, h2⟩)
      · exact .inl a
      · exact .inr ⟨t, .inl rfl, a⟩
      · exact .inr ⟨t', .inr h1, h2⟩
    · rintro (a | ⟨t', rfl | h1, h2⟩)
      · exact .inl (.inl a)
      · exact .inl (.inr h2)
      · exact .inr ⟨t', h1, h2⟩
theorem nodup_owAll (T : List PTxn) : ∀ L : List (Int × Int), L.Nodup → (T.foldl owTxn L).Nodup := by
  induction T with
  | nil => intro L h; exact h
  | cons t T ih => intro L h; exact ih _ (nodup_owTxn h t)

/-! ### The law's own list -/
def later (ops : List POp) (i : Nat) (k : Int) : Bool := (List.range ops.length).any fun j => decide (i < j) && (decide ((opAt ops j).kind = 1) && decide ((opAt ops j).key = k))
theorem later_iff (ops : List POp) (i : Nat) (k : Int) : later ops i k = true ↔ ∃ j, i < j ∧ j < ops.length ∧ Wr (opAt ops) j k := by
  simp only [later, List.any_eq_true, List.mem_range, Bool.and_eq_true, decide_eq_true_eq, Wr]
  constructor
  · rintro ⟨j, h1, h2, h3, h4⟩; exact ⟨j, h2, h1, h3, h4⟩
  · rintro ⟨j, h1, h2, h3, h4⟩; exact ⟨j, h2, h1, h3, h4⟩
def pairAt (ops : List POp) (i : Nat) : List (Int × Int) := if (opAt ops i).kind = 1 ∧ later ops i (opAt ops i).key = true then [((opAt ops i).key, (opAt ops i).val)] else []
def pairsTo (ops : List POp) : Nat → List (Int × Int)
  | 0 => []
  | a + 1 => pairsTo ops a ++ pairAt ops a
def pairsAll (T : List PTxn) : Nat → List (Int × Int)
  | 0 => []
  | i + 1 => pairsAll T i ++ (match T[i]? with | some t => pairsTo t.ops t.ops.length | none => [])
theorem mem_pairAt (ops : List POp) (i : Nat) (p : Int × Int) : p ∈ pairAt ops i ↔ (opAt ops i).kind = 1 ∧ (∃ j, i < j ∧ j < ops.length ∧ Wr (opAt ops) j (opAt ops i).key) ∧ p = ((opAt ops i).key, (opAt ops i).val) := by
  unfold pairAt
  by_cases h : (opAt ops i).kind = 1 ∧ later ops i (opAt ops i).key = true
  · rw [if_pos h]
    rw [later_iff] at h
    simp only [List.mem_singleton]
    exact ⟨fun e => ⟨h.1, h.2, e⟩, fun e => e.2.2⟩
  · rw [if_neg h]
    rw [later_iff] at h
    exact ⟨fun e => (by cases e), fun e => absurd ⟨e.1, e.2.1⟩ h⟩
theorem mem_pairsTo (ops : List POp) (a : Nat) (p : Int × Int) : p ∈ pairsTo ops a ↔ ∃ i, i < a ∧ p ∈ pairAt ops i := by
  induction a with
  | zero => simp [pairsTo]
  | succ a ih =>
    rw [pairsTo, List.mem_append, ih]
    constructor
    · rintro (⟨i, h1, h2⟩ | h)
      · exact ⟨i, by omega, h2⟩
      · exact ⟨a, by omega, h⟩
    · rintro ⟨i, h1, h2⟩
      by_cases e : i = a
      · subst e; exact .inr h2
      · exact .inl ⟨i, by omega, h2⟩
theorem mem_pairsOps (ops : List POp) (p : Int × Int) : p ∈ pairsTo ops ops.length ↔ OvB (opAt ops) ops.length p := by
  rw [mem_pairsTo]
  constructor
  · rintro ⟨i, h1, h2⟩
    obtain ⟨a1, ⟨j, a2, a3, a4⟩, a5⟩ := (mem_pairAt _ _ _).1 h2
    exact ⟨i, j, a2, a3, a1, a4, a5⟩
  · rintro ⟨i, j, b1, b2, b3, b4, b5⟩
    exact ⟨i, by omega, (mem_pairAt _ _ _).2 ⟨b3, ⟨j, b1, b2, b4⟩, b5⟩⟩
theorem mem_pairsAll (T : List PTxn) (p : Int × Int) : ∀ i, i ≤ T.length → (p ∈ pairsAll T i ↔ ∃ t ∈ T.take i, OvB (opAt t.ops) t.ops.length p) := by
  intro i
  induction i with
  | zero => intro _; simp [pairsAll]
  | succ i ih =>
    intro h
    rw [pairsAll, List.mem_append, ih (by omega), List.take_succ_eq_append_getElem h]
    simp only [List.getElem?_eq_getElem h, mem_pairsOps]
    constructor
    · rintro (⟨t, h1, h2⟩ | h)
      · exact ⟨t, List.mem_append_left _ h1, h2⟩
      · exact ⟨T[i], List.mem_append_right _ (List.mem_singleton.2 rfl), h⟩
    · rintro ⟨t, h1, h2⟩
      rcases List.mem_append.1 h1 with h1 | h1
      · exact .inl ⟨t, h1, h2⟩
      · simp at h1; subst h1; exact .inr h2
/-- THE LAW: the two lists have the same members. -/
theorem same_members (T : List PTxn) (p : Int × Int) : p ∈ owAll T ↔ p ∈ pairsAll T T.length := by
  unfold owAll
  rw [mem_owAll, mem_pairsAll T p T.length (Nat.le_refl _), List.take_of_length_le (Nat.le_refl _)]
  simp
theorem owAll_nodup (T : List PTxn) : (owAll T).Nodup := nodup_owAll T [] List.nodup_nil

/-! ### Counting what is new in a sorted row -/
def cnt (c : Nat → Int × Int) : Nat → Nat
  | 0 => 0
  | i + 1 => cnt c i + (if 0 < i ∧ c i = c (i - 1) then 0 else 1)
def newL (c : Nat → Int × Int) : Nat → List (Int × Int)
  | 0 => []
  | i + 1 => if 0 < i ∧ c i = c (i - 1) then newL c i else newL c i ++ [c i]
theorem newL_length (c : Nat → Int × Int) (i : Nat) : (newL c i).length = cnt c i := by
  induction i with
  | zero => rfl
  | succ i ih => unfold newL cnt; split <;> simp [ih]
theorem mem_newL (c : Nat → Int × Int) (i : Nat) (p : Int × Int) : p ∈ newL c i ↔ ∃ q, q < i ∧ c q = p := by
  induction i with
  | zero => simp [newL]
  | succ i ih =>
    unfold newL
    split
    · rename_i h
      rw [ih]
      constructor
      · rintro ⟨q, h1, h2⟩; exact ⟨q, by omega, h2⟩
      · rintro ⟨q, h1, h2⟩
        by_cases e : q = i
        · subst e; exact ⟨q - 1, by omega, by rw [← h.2]; exact h2⟩
        · exact ⟨q, by omega, h2⟩
    · rw [List.mem_append, ih]
      constructor
      · rintro (⟨q, h1, h2⟩ | h)
        · exact ⟨q, by omega, h2⟩
        · simp at h; exact ⟨i, by omega, h.symm⟩
      · rintro ⟨q, h1, h2⟩
        by_cases e : q = i
        · subst e; exact .inr (by simp [h2])
        · exact .inl ⟨q, by omega, h2⟩
theorem newL_nodup {c : Nat → Int × Int} {n : Nat} (hs : SortedTo c n) : ∀ i, i ≤ n → (newL c i).Nodup := by
  intro i
  induction i with
  | zero => intro _; exact List.nodup_nil
  | succ i ih =>
    intro h
    unfold newL
    split
    · exact ih (by omega)
    · rename_i hne
      rw [List.nodup_append]
      refine ⟨ih (by omega), by simp, fun a ha b hb => ?_⟩
      simp at hb
      subst hb
      rintro rfl
      obtain ⟨q, h1, h2⟩ := (mem_newL _ _ _).1 ha
      apply hne
      refine ⟨by omega, ?_⟩
      by_cases e : q = i - 1
      · rw [← e, h2]
      · have s1 := hs q (i - 1) (by omega) (by omega)
        have s2 := hs (i - 1) i (by omega) (by omega)
        rw [h2] at s1
        exact kv_eq_of s2 s1
theorem length_le_of_sub {α : Type} [DecidableEq α] : ∀ (l m : List α), l.Nodup → (∀ x ∈ l, x ∈ m) → l.length ≤ m.length := by
  intro l
  induction l with
  | nil => intro m _ _; simp
  | cons a l ih =>
    intro m hd hs
    obtain ⟨h1, h2⟩ := List.nodup_cons.1 hd
    have ha : a ∈ m := hs a (by simp)
    have := ih (m.erase a) h2 (fun x hx => by
      have hx' := hs x (by simp [hx])
      have hne : x ≠ a := fun e => h1 (e ▸ hx)
      exact (List.mem_erase_of_ne hne).2 hx')
    rw [List.length_erase_of_mem ha] at this
    have hpos : 0 < m.length := List.length_pos_of_mem ha
    simp
    omega
theorem length_eq_of_same {α : Type} [DecidableEq α] (l m : List α) (h1 : l.Nodup) (h2 : m.Nodup) (h : ∀ x, x ∈ l ↔ x ∈ m) : l.length = m.length :=
  Nat.le_antisymm (length_le_of_sub l m h1 fun x hx => (h x).1 hx) (length_le_of_sub m l h2 fun x hx => (h x).2 hx)
/-- THE COUNT: a sorted row with the members of L, L without repeats: as many new ones as L is long. -/
theorem cnt_eq {c : Nat → Int × Int} {n : Nat} {L : List (Int × Int)} (hs : SortedTo c n) (hL : L.Nodup) (hm : ∀ p, p ∈ L ↔ ∃ q, q < n ∧ c q = p) : cnt c n = L.length := by
  rw [← newL_length]
  exact length_eq_of_same _ _ (newL_nodup hs n (Nat.le_refl _)) hL (fun x => by rw [mem_newL, hm])
end Go.Proofs.Qxb6602646a
