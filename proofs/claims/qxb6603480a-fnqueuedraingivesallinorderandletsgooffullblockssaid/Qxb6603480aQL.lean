/-
  The plain laws of the queue.
-/
import Derived.Test.Qxb6603480aQ7
namespace Go.Proofs.Qxb6603480a

theorem zip_fst {l : List Int} : ∀ {m : List Int}, m.length = l.length → ((l.zip m).map fun p => p.1) = l := by
  induction l with
  | nil => intro m _; simp
  | cons a l ih =>
    intro m h
    cases m with
    | nil => simp at h
    | cons b m => simp only [List.zip_cons_cons, List.map_cons]; rw [ih (by simpa using h)]
theorem zip_snd {l : List Int} : ∀ {m : List Int}, m.length = l.length → ((l.zip m).map fun p => p.2) = m := by
  induction l with
  | nil => intro m h; cases m with
    | nil => rfl
    | cons b m => simp at h
  | cons a l ih =>
    intro m h
    cases m with
    | nil => simp at h
    | cons b m => simp only [List.zip_cons_cons, List.map_cons]; rw [ih (by simpa using h)]
theorem zip_self (l : List (Int × Int)) : (l.map fun p => p.1).zip (l.map fun p => p.2) = l := by
  induction l with
  | nil => rfl
  | cons a l ih => simp only [List.map_cons, List.zip_cons_cons, ih]
theorem pairs_fst {O C : List (List Int)} {h : Int} (s : ShapeP O C h) : fstC (pairs O C) = O := by
  apply List.ext_getElem
  · rw [fstC_len, pairs_len]
  · intro i h1 h2
    have h3 : i < C.length := by rw [s.len]; exact h2
    rw [fstC_at, pairs_at]
    have e : prow O C i = (O[i]).zip (C[i]) := by simp [prow, h2, h3]
    rw [e]
    exact zip_fst (s.each i h2 h3).1
theorem pairs_snd {O C : List (List Int)} {h : Int} (s : ShapeP O C h) : sndC (pairs O C) = C := by
  apply List.ext_getElem
  · rw [sndC_len, pairs_len, s.len]
  · intro i h1 h3
    have h2 : i < O.length := by rw [← s.len]; exact h3
    rw [sndC_at, pairs_at]
    have e : prow O C i = (O[i]).zip (C[i]) := by simp [prow, h2, h3]
    rw [e]
    exact zip_snd (s.each i h2 h3).1
theorem pairs_back (B : List (List (Int × Int))) : pairs (fstC B) (sndC B) = B := by
  apply List.ext_getElem
  · rw [pairs_len, fstC_len]
  · intro i h1 h2
    rw [pairs_at]
    have h3 : i < (fstC B).length := by rw [fstC_len]; exact h2
    have h4 : i < (sndC B).length := by rw [sndC_len]; exact h2
    have e : prow (fstC B) (sndC B) i = ((fstC B)[i]).zip ((sndC B)[i]) := by simp [prow, h3, h4]
    rw [e, fstC_at, sndC_at, zip_self]
/-- The shape, said of the blocks. -/
structure ShB (B : List (List (Int × Int))) (h : Nat) : Prop where
  each : ∀ i (h : i < B.length), 1 ≤ B[i].length ∧ B[i].length ≤ 4096 ∧ (i + 1 < B.length → B[i].length = 4096)
  head : (B.length = 0 ∧ h = 0) ∨ ∃ h0 : 0 < B.length, h ≤ B[0].length ∧ h < 4096
theorem shB_of {B : List (List (Int × Int))} {h : Int} (s : ShapeP (fstC B) (sndC B) h) : ∃ n : Nat, h = n ∧ ShB B n := by
  have he : ∀ i (h : i < B.length), 1 ≤ B[i].length ∧ B[i].length ≤ 4096 ∧ (i + 1 < B.length → B[i].length = 4096) := fun i hi => by
    have := s.each i (by rw [fstC_len]; exact hi) (by rw [sndC_len]; exact hi)
    rw [fstC_at, sndC_at, List.length_map, List.length_map] at this
    exact ⟨this.2.1, this.2.2.1, fun q => this.2.2.2 (by rw [fstC_len]; exact q)⟩
  rcases s.head with ⟨h1, h2⟩ | ⟨h0, h1, h2, h3⟩
  · rw [fstC_len] at h1
    exact ⟨0, h2, he, .inl ⟨h1, rfl⟩⟩
  · rw [fstC_at, List.length_map] at h2
    rw [fstC_len] at h0
    exact ⟨h.toNat, by omega, he, .inr ⟨h0, by omega, by omega⟩⟩
theorem shape_of {B : List (List (Int × Int))} {h : Nat} (s : ShB B h) : ShapeP (fstC B) (sndC B) h := by
  refine ⟨by rw [fstC_len, sndC_len], fun i h1 h2 => ?_, ?_⟩
  · rw [fstC_len] at h1
    rw [fstC_at, sndC_at, List.length_map, List.length_map]
    obtain ⟨q1, q2, q3⟩ := s.each i h1
    exact ⟨rfl, q1, q2, fun q => q3 (by rw [fstC_len] at q; exact q)⟩
  · rcases s.head with ⟨h1, h2⟩ | ⟨h0, h1, h2⟩
    · exact .inl ⟨by rw [fstC_len]; exact h1, by rw [h2]; rfl⟩
    · refine .inr ⟨by rw [fstC_len]; exact h0, by omega, ?_, by omega⟩
      rw [fstC_at, List.length_map]
      omega
def flatB (B : List (List (Int × Int))) (h : Nat) : List (Int × Int) := match B with | [] => [] | b :: R => b.drop h ++ R.flatten
theorem map_flat (f : Int × Int → Int) (R : List (List (Int × Int))) : (R.map fun l => l.map f).flatten = R.flatten.map f := by
  induction R with
  | nil => rfl
  | cons r R ih => rw [List.map_cons, List.flatten_cons, List.flatten_cons, List.map_append, ih]
theorem flat_fst (B : List (List (Int × Int))) (h : Nat) : flat (fstC B) h = (flatB B h).map fun p => p.1 := by
  cases B with
  | nil => rfl
  | cons b R =>
    show (b.map fun p => p.1).drop h ++ (R.map fun l => l.map fun p => p.1).flatten = (b.drop h ++ R.flatten).map fun p => p.1
    rw [map_flat, List.map_append, List.map_drop]
theorem flat_snd (B : List (List (Int × Int))) (h : Nat) : flat (sndC B) h = (flatB B h).map fun p => p.2 := by
  cases B with
  | nil => rfl
  | cons b R =>
    show (b.map fun p => p.2).drop h ++ (R.map fun l => l.map fun p => p.2).flatten = (b.drop h ++ R.flatten).map fun p => p.2
    rw [map_flat, List.map_append, List.map_drop]
theorem flatB_len (B : List (List (Int × Int))) (h : Nat) (s : ShB B h) (hn : B.length ≤ 4096) : (flatB B h).length ≤ 16781312 := by
  have e1 := flat_fst B h
  have e2 : (flatB B h).length = (flat (fstC B) h).length := by rw [e1, List.length_map]
  rw [e2]
  cases hB : fstC B with
  | nil => simp [flat]
  | cons r R =>
    have hl : (fstC B).length = R.length + 1 := by rw [hB]; simp
    have hall : ∀ q ∈ fstC B, q.length ≤ 4096 := fun q hq => by
      obtain ⟨i, hi, rfl⟩ := List.getElem_of_mem hq
      rw [fstC_at, List.length_map]
      exact (s.each i _).2.1
    rw [hB] at hall
    have := flatP_le r R h R.length (hall r (by simp)) (fun q hq => hall q (by simp [hq])) (by rw [fstC_len] at hl; omega)
    unfold flatP at this
    rw [List.take_length] at this
    exact this
/-- An empty queue. -/
theorem flat_nil {B : List (List (Int × Int))} {h : Nat} (e : flatB B h = []) (s : ShB B h) : B.length = 0 ∨ ∃ h0 : 0 < B.length, h = B[0].length := by
  cases B with
  | nil => exact .inl rfl
  | cons b R =>
    have e : b.drop h ++ R.flatten = [] := e
    have e1 := (List.append_eq_nil_iff.1 e).1
    have : b.length ≤ h := List.drop_eq_nil_iff.1 e1
    rcases s.head with ⟨h1, _⟩ | ⟨_, h1, _⟩
    · simp at h1
    · simp only [List.getElem_cons_zero] at h1
      exact .inr ⟨by simp, by simp only [List.getElem_cons_zero]; omega⟩
theorem flat_some {B : List (List (Int × Int))} {h : Nat} (e : flatB B h ≠ []) (s : ShB B h) : ∃ b R, B = b :: R ∧ ∃ hh : h < b.length, h < 4096 ∧ b.length ≤ 4096 ∧ flatB B h = b[h] :: flatB (nextB B h) (nextH h) ∧ ShB (nextB B h) (nextH h) ∧ (h + 1 = 4096 → b.length = 4096) := by
  cases B with
  | nil => exact absurd rfl e
  | cons b R =>
    have hb := s.each 0 (by simp)
    simp only [List.getElem_cons_zero] at hb
    have hh4 : h ≤ b.length ∧ h < 4096 := by
      rcases s.head with ⟨h1, _⟩ | ⟨_, h1, h2⟩
      · simp at h1
      · exact ⟨h1, h2⟩
    have hlt : h < b.length := by
      by_cases q : h < b.length
      · exact q
      · exfalso
        have hl : b.length = h := by omega
        have hR : R = [] := by
          cases R with
          | nil => rfl
          | cons r R =>
            have := hb.2.2 (by simp)
            omega
        apply e
        show b.drop h ++ R.flatten = []
        rw [hR, List.drop_eq_nil_iff.2 (by omega)]
        rfl
    refine ⟨b, R, rfl, hlt, hh4.2, hb.2.1, ?_, ?_, fun q => by omega⟩
    · show b.drop h ++ R.flatten = _
      rw [List.drop_eq_getElem_cons hlt, List.cons_append]
      congr 1
      unfold nextB nextH
      by_cases q : h + 1 = 4096
      · rw [if_pos q, if_pos q, List.drop_eq_nil_iff.2 (by omega), List.nil_append]
        show R.flatten = flatB R 0
        cases R with
        | nil => rfl
        | cons r R => rfl
      · rw [if_neg q, if_neg q]
        rfl
    · unfold nextB nextH
      by_cases q : h + 1 = 4096
      · rw [if_pos q, if_pos q]
        refine ⟨fun i hi => ?_, ?_⟩
        · have := s.each (i + 1) (by simpa using hi)
          simp only [List.getElem_cons_succ, List.length_cons] at this
          exact ⟨this.1, this.2.1, fun h2 => this.2.2 (by simp at h2; omega)⟩
        · cases R with
          | nil => exact .inl ⟨rfl, rfl⟩
          | cons r R => exact .inr ⟨by simp, Nat.zero_le _, by omega⟩
      · rw [if_neg q, if_neg q]
        exact ⟨s.each, .inr ⟨by simp, by simp only [List.getElem_cons_zero]; omega, by omega⟩⟩
theorem nextB_len (B : List (List (Int × Int))) (h : Nat) : (nextB B h).length ≤ B.length := by
  unfold nextB
  split
  · rw [List.length_tail]; omega
  · exact Nat.le_refl _
end Go.Proofs.Qxb6603480a
