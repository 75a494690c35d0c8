/-
  The arguments opened: from their reading as data to the plain lists.
-/
import Derived.Test.Qxb6603480aQ1
import Derived.ProofKit
import Derived.Deep.Strs
namespace Go.Proofs.Qxb6603480a
open Go.RowKit Go.Deep Go.ChangeShapes Go.WideShapes

theorem list_of {α : Type} {p : Nat → α → Prop} : ∀ n, (∀ i, i < n → ∃ x, p i x) → ∃ l : List α, l.length = n ∧ ∀ i (h : i < l.length), p i l[i] := by
  intro n
  induction n with
  | zero => intro _; exact ⟨[], rfl, fun i h => absurd h (by simp)⟩
  | succ n ih =>
    intro h
    obtain ⟨l, hl, hp⟩ := ih (fun i hi => h i (by omega))
    obtain ⟨x, hx⟩ := h n (by omega)
    refine ⟨l ++ [x], by simp [hl], fun i hi => ?_⟩
    by_cases e : i < l.length
    · rw [List.getElem_append_left e]; exact hp i e
    · have : i = n := by simp at hi; omega
      subst this
      have e2 : (l ++ [x])[i] = x := by rw [List.getElem_append_right (by omega)]; simp [hl]
      rw [e2]
      exact hx

theorem cells26 : Try.prog.cellsOf 26 = 1 := by kernel_rfl
theorem cells31 : Try.prog.cellsOf 31 = 1 := by kernel_rfl
section
variable {H : Type} {enc : TypeId × Value → H} {w : World} {spare : Nat → Bool} {held : Bool}

/-- The cells that were read, at a plain address. -/
theorem cells_lit {b off k n : Nat} {cs : List Value} (h : w.cells? 0 ((⟨b, off, none⟩ : Addr).add k) n = some cs) : cs.length = n ∧ ∀ i, i < n → w.cell? ⟨b, off + k + i, none⟩ = cs[i]? := by
  obtain ⟨_, hl, hc⟩ := World.cells?_some h
  refine ⟨hl, fun i hi => ?_⟩
  have := hc i hi
  rw [Addr.add_lit, Addr.add_lit] at this
  exact this
theorem spot_of {a : Addr} {n : Nat} {cs : List Value} (hn : 0 < n) (h : w.cells? 0 (a.add (0 * n)) n = some cs) : a.spot = none := by
  obtain ⟨_, hl, hc⟩ := World.cells?_some h
  have h0 := hc 0 hn
  rw [List.getElem?_eq_getElem (by omega)] at h0
  have := World.cell?_spot h0
  simpa [Addr.add] using this
/-- A slice whose elements are n cells each: where it lies. -/
theorem slice_lies {t e : TypeId} {n fuel : Nat} {v : Value} {x : DataW H × List MemPlace} (ht : Try.prog.underlying t = some (.slice e)) (hc : Try.prog.cellsOf e = n) (hn : 0 < n)
    (h : DataW.trod enc Try.prog w 0 (fun _ => true) held fuel t [v] = some x) :
    ∃ a len cap, v = .slice a len cap ∧ len ≤ maxLen ∧ (a = none → len = 0) ∧ (0 < len → ∃ b off, a = some ⟨b, off, none⟩ ∧ b < w.heap.size ∧ ∃ m, ∀ i, i < len → ∃ cs y, cs.length = n ∧ (∀ j, j < n → w.cell? ⟨b, off + i * n + j, none⟩ = cs[j]?) ∧
      DataW.trod enc Try.prog w 0 (fun _ => true) held m e cs = some y) := by
  rcases open_slice ht h with ⟨hcs, _⟩ | ⟨a, len, cap, m, f, D, Pl, hcs, _, hl, hm, hmm, _, hx⟩
  · cases hcs
    exact ⟨none, 0, 0, rfl, Nat.zero_le _, fun _ => rfl, fun h => absurd h (by omega)⟩
  · cases hcs
    refine ⟨some a, len, cap, rfl, by omega, fun h => (by cases h), fun hpos => ?_⟩
    rw [if_pos rfl] at hmm
    rw [hc] at hx
    obtain ⟨cs0, h1, _⟩ := hx 0 (by omega)
    obtain ⟨b, off, spot⟩ := a
    have hspot := spot_of hn h1
    simp only at hspot
    subst hspot
    have hb : b < w.heap.size := by
      obtain ⟨e1, e2⟩ := cells_lit h1
      have h0 := e2 0 hn
      rw [List.getElem?_eq_getElem (by omega)] at h0
      exact World.block_lt_of_cell? w _ h0
    refine ⟨b, off, rfl, hb, f, fun i hi => ?_⟩
    obtain ⟨cs, a1, a2⟩ := hx i (by omega)
    obtain ⟨e1, e2⟩ := cells_lit a1
    exact ⟨cs, _, e1, e2, a2⟩

theorem open_row {fuel : Nat} {v : Value} {x : DataW H × List MemPlace} (h : DataW.trod enc Try.prog w 0 (fun _ => true) held fuel 26 [v] = some x) :
    ∃ a c l, v = .slice a (List.length l) c ∧ IntsAt .u32 (· < w.heap.size) w a l := by
  obtain ⟨a, len, cap, rfl, hm, hnil, hx⟩ := slice_lies Try.underlying26 cells31 (by omega) h
  by_cases h0 : len = 0
  · subst h0
    exact ⟨a, cap, [], rfl, fun h => absurd h (by simp)⟩
  · obtain ⟨b, off, rfl, hb, m, hi⟩ := hx (by omega)
    obtain ⟨l, hl, hp⟩ := list_of (p := fun i (n : Int) => w.cell? ⟨b, off + i, none⟩ = some (.int .u32 n)) len (fun i hlt => by
      obtain ⟨cs, y, e1, e2, e3⟩ := hi i hlt
      obtain ⟨n, rfl, _⟩ := DataW.trod_int Try.underlying31 e3
      exact ⟨n, by simpa using e2 0 (by omega)⟩)
    subst hl
    exact ⟨_, cap, l, rfl, fun _ => ⟨b, off, rfl, hb, hp⟩⟩
theorem open_rows {fuel : Nat} {v : Value} {x : DataW H × List MemPlace} (h : DataW.trod enc Try.prog w 0 (fun _ => true) held fuel 22 [v] = some x) :
    ∃ a c L, v = .slice a (List.length L) c ∧ List.length L ≤ maxLen ∧ (a = none → List.length L = 0) ∧ RowsAt .u32 (· < w.heap.size) w a L := by
  obtain ⟨a, len, cap, rfl, hm, hnil, hx⟩ := slice_lies Try.underlying22 cells26 (by omega) h
  by_cases h0 : len = 0
  · subst h0
    exact ⟨a, cap, [], rfl, Nat.zero_le _, fun _ => rfl, fun h => absurd h (by simp)⟩
  · obtain ⟨b, off, rfl, hb, m, hi⟩ := hx (by omega)
    obtain ⟨l, hl, hp⟩ := list_of (p := fun i (t : List Int) => ∃ a' c', w.cell? ⟨b, off + i, none⟩ = some (.slice a' t.length c') ∧ IntsAt .u32 (· < w.heap.size) w a' t) len (fun i hlt => by
      obtain ⟨cs, y, e1, e2, e3⟩ := hi i hlt
      match cs, e1 with
      | [c0], _ =>
        obtain ⟨a', c', l', rfl, h5⟩ := open_row e3
        exact ⟨l', a', c', by simpa using e2 0 (by omega), h5⟩)
    subst hl
    exact ⟨_, cap, l, rfl, hm, hnil, fun _ => ⟨b, off, rfl, hb, hp⟩⟩
end
end Go.Proofs.Qxb6603480a
