/-
  The arguments opened: from their reading as data to the plain lists.
-/
import Derived.Test.Qxb6602646aBase
import Derived.ProofKit
import Derived.Deep.Strs
namespace Go.Proofs.Qxb6602646a
open Go.RowKit Go.Deep Go.ChangeShapes Go.WideShapes

theorem list_of {α : Type} {p : Nat → α → Prop} : ∀ n, (∀ i, i < n → ∃ x, p i x) → ∃ l : List α, l.length = n ∧ ∀ i (h : i < l.length), p i l[i] := by
  intro n
  induction n with
  | zero => intro _; exact ⟨[], rfl, fun i h => absurd h (by simp)⟩
  | succ n ih =>
    intro h
    obtain ⟨l, hl, hp⟩ := ih (fun i hi => h i (by omega))
    obtain ⟨x, hx⟩ := h n (by omega)
    refine ⟨l ++ [x], by simp [hl], fun i hi => ?_⟩
    by_cases e : i < l.length
    · rw [List.getElem_append_left e]; exact hp i e
    · have : i = n := by simp at hi; omega
      subst this
      have e2 : (l ++ [x])[i] = x := by rw [List.getElem_append_right (by omega)]; simp [hl]
      rw [e2]
      exact hx

theorem cells2 : Try.prog.cellsOf 2 = 1 := by kernel_rfl
theorem cells3 : Try.prog.cellsOf 3 = 1 := by kernel_rfl
theorem cells5 : Try.prog.cellsOf 5 = 1 := by kernel_rfl
theorem cells36 : Try.prog.cellsOf 36 = 1 := by kernel_rfl
theorem cells38 : Try.prog.cellsOf 38 = 3 := by kernel_rfl
theorem cells40 : Try.prog.cellsOf 40 = 3 := by kernel_rfl
theorem cells42 : Try.prog.cellsOf 42 = 1 := by kernel_rfl
theorem cells44 : Try.prog.cellsOf 44 = 2 := by kernel_rfl

section
variable {H : Type} {enc : TypeId × Value → H} {w : World} {spare : Nat → Bool} {held : Bool}

/-- The cells that were read, at a plain address. -/
theorem cells_lit {b off k n : Nat} {cs : List Value} (h : w.cells? 0 ((⟨b, off, none⟩ : Addr).add k) n = some cs) : cs.length = n ∧ ∀ i, i < n → w.cell? ⟨b, off + k + i, none⟩ = cs[i]? := by
  obtain ⟨_, hl, hc⟩ := World.cells?_some h
  refine ⟨hl, fun i hi => ?_⟩
  have := hc i hi
  rw [Addr.add_lit, Addr.add_lit] at this
  exact this
theorem spot_of {a : Addr} {n : Nat} {cs : List Value} (hn : 0 < n) (h : w.cells? 0 (a.add (0 * n)) n = some cs) : a.spot = none := by
  obtain ⟨_, hl, hc⟩ := World.cells?_some h
  have h0 := hc 0 hn
  rw [List.getElem?_eq_getElem (by omega)] at h0
  have := World.cell?_spot h0
  simpa [Addr.add] using this
/-- A slice whose elements are n cells each: where it lies. -/
theorem slice_lies {t e : TypeId} {n fuel : Nat} {v : Value} {x : DataW H × List MemPlace} (ht : Try.prog.underlying t = some (.slice e)) (hc : Try.prog.cellsOf e = n) (hn : 0 < n)
    (h : DataW.trod enc Try.prog w 0 (fun _ => true) held fuel t [v] = some x) :
    ∃ a len cap, v = .slice a len cap ∧ len ≤ maxLen ∧ (a = none → len = 0) ∧ (0 < len → ∃ b off, a = some ⟨b, off, none⟩ ∧ b < w.heap.size ∧ ∃ m, ∀ i, i < len → ∃ cs y, cs.length = n ∧ (∀ j, j < n → w.cell? ⟨b, off + i * n + j, none⟩ = cs[j]?) ∧
      DataW.trod enc Try.prog w 0 (fun _ => true) held m e cs = some y) := by
  rcases open_slice ht h with ⟨hcs, _⟩ | ⟨a, len, cap, m, f, D, Pl, hcs, _, hl, hm, hmm, _, hx⟩
  · cases hcs
    exact ⟨none, 0, 0, rfl, Nat.zero_le _, fun _ => rfl, fun h => absurd h (by omega)⟩
  · cases hcs
    refine ⟨some a, len, cap, rfl, by omega, fun h => (by cases h), fun hpos => ?_⟩
    rw [if_pos rfl] at hmm
    rw [hc] at hx
    obtain ⟨cs0, h1, _⟩ := hx 0 (by omega)
    obtain ⟨b, off, spot⟩ := a
    have hspot := spot_of hn h1
    simp only at hspot
    subst hspot
    have hb : b < w.heap.size := by
      obtain ⟨e1, e2⟩ := cells_lit h1
      have h0 := e2 0 hn
      rw [List.getElem?_eq_getElem (by omega)] at h0
      exact World.block_lt_of_cell? w _ h0
    refine ⟨b, off, rfl, hb, f, fun i hi => ?_⟩
    obtain ⟨cs, a1, a2⟩ := hx i (by omega)
    obtain ⟨e1, e2⟩ := cells_lit a1
    exact ⟨cs, _, e1, e2, a2⟩

theorem open_op {m : Nat} {cs : List Value} {y : DataW H × List MemPlace} (h : DataW.trod enc Try.prog w 0 (fun _ => true) held m 40 cs = some y) : ∃ o : POp, cs = [.int .u8 o.kind, .int .i64 o.key, .int .i64 o.val] := by
  obtain ⟨y0, y1, y2, n, _, hl, h0, h1, h2⟩ := trod_struct3 Try.underlying40 h
  rw [cells40] at hl
  rw [cells5] at h0
  rw [cells2] at h1 h2
  obtain ⟨k, e0, _⟩ := DataW.trod_int Try.underlying5 h0
  obtain ⟨ky, e1, _⟩ := DataW.trod_int Try.underlying2 h1
  obtain ⟨vl, e2, _⟩ := DataW.trod_int Try.underlying2 h2
  match cs, hl with
  | [c0, c1, c2], _ =>
    simp at e0 e1 e2
    subst e0 e1 e2
    exact ⟨⟨k, ky, vl⟩, rfl⟩

theorem open_ops {fuel : Nat} {v : Value} {x : DataW H × List MemPlace} (h : DataW.trod enc Try.prog w 0 (fun _ => true) held fuel 36 [v] = some x) :
    ∃ a c l, v = .slice a (List.length l) c ∧ List.length l ≤ maxLen ∧ (a = none → List.length l = 0) ∧ OpsAt (· < w.heap.size) w a l := by
  obtain ⟨a, len, cap, rfl, hm, hnil, hx⟩ := slice_lies Try.underlying36 cells40 (by omega) h
  by_cases h0 : len = 0
  · subst h0
    exact ⟨a, cap, [], rfl, Nat.zero_le _, fun _ => rfl, fun h => absurd h (by simp)⟩
  · obtain ⟨b, off, rfl, hb, m, hi⟩ := hx (by omega)
    obtain ⟨l, hl, hp⟩ := list_of (p := fun i (o : POp) => OpAt w b (off + i * 3) o) len (fun i hlt => by
      obtain ⟨cs, y, e1, e2, e3⟩ := hi i hlt
      obtain ⟨o, rfl⟩ := open_op e3
      exact ⟨o, by simpa using e2 0 (by omega), by simpa using e2 1 (by omega), by simpa using e2 2 (by omega)⟩)
    subst hl
    exact ⟨_, cap, l, rfl, hm, hnil, fun _ => ⟨b, off, rfl, hb, hp⟩⟩

theorem open_txn {m b off : Nat} {cs : List Value} {y : DataW H × List MemPlace} (hc : ∀ j, j < 3 → w.cell? ⟨b, off + j, none⟩ = cs[j]?) (h : DataW.trod enc Try.prog w 0 (fun _ => true) held m 38 cs = some y) :
    ∃ t : PTxn, TxnAt (· < w.heap.size) w b off t := by
  obtain ⟨y0, y1, y2, n, _, hl, h0, h1, h2⟩ := trod_struct3 Try.underlying38 h
  rw [cells38] at hl
  rw [cells2] at h0
  rw [cells3] at h1
  rw [cells36] at h2
  obtain ⟨k, e0, _⟩ := DataW.trod_int Try.underlying2 h0
  obtain ⟨ky, e1, _⟩ := DataW.trod_int Try.underlying3 h1
  match cs, hl with
  | [c0, c1, c2], _ =>
    simp at e0 e1 h2
    subst e0 e1
    obtain ⟨a, c, l, rfl, _, _, ho⟩ := open_ops h2
    exact ⟨⟨k, ky, l⟩, by simpa using hc 0 (by omega), by simpa using hc 1 (by omega), a, c, by simpa using hc 2 (by omega), ho⟩

theorem open_txns {fuel : Nat} {v : Value} {x : DataW H × List MemPlace} (h : DataW.trod enc Try.prog w 0 (fun _ => true) held fuel 22 [v] = some x) :
    ∃ a c T, v = .slice a (List.length T) c ∧ List.length T ≤ maxLen ∧ (a = none → List.length T = 0) ∧ TxnsAt (· < w.heap.size) w a T := by
  obtain ⟨a, len, cap, rfl, hm, hnil, hx⟩ := slice_lies Try.underlying22 cells38 (by omega) h
  by_cases h0 : len = 0
  · subst h0
    exact ⟨a, cap, [], rfl, Nat.zero_le _, fun _ => rfl, fun h => absurd h (by simp)⟩
  · obtain ⟨b, off, rfl, hb, m, hi⟩ := hx (by omega)
    obtain ⟨l, hl, hp⟩ := list_of (p := fun i (t : PTxn) => TxnAt (· < w.heap.size) w b (off + i * 3) t) len (fun i hlt => by
      obtain ⟨cs, y, e1, e2, e3⟩ := hi i hlt
      exact open_txn e2 e3)
    subst hl
    exact ⟨_, cap, l, rfl, hm, hnil, fun _ => ⟨b, off, rfl, hb, hp⟩⟩

theorem open_ints64 {t e : TypeId} (ht : Try.prog.underlying t = some (.slice e)) (hc : Try.prog.cellsOf e = 1) (he : Try.prog.underlying e = some (.int .i64)) {fuel : Nat} {v : Value} {x : DataW H × List MemPlace}
    (h : DataW.trod enc Try.prog w 0 (fun _ => true) held fuel t [v] = some x) :
    ∃ a c l, v = .slice a (List.length l) c ∧ List.length l ≤ maxLen ∧ (a = none → List.length l = 0) ∧ IntsAt .i64 (· < w.heap.size) w a l := by
  obtain ⟨a, len, cap, rfl, hm, hnil, hx⟩ := slice_lies ht hc (by omega) h
  by_cases h0 : len = 0
  · subst h0
    exact ⟨a, cap, [], rfl, Nat.zero_le _, fun _ => rfl, fun h => absurd h (by simp)⟩
  · obtain ⟨b, off, rfl, hb, m, hi⟩ := hx (by omega)
    obtain ⟨l, hl, hp⟩ := list_of (p := fun i (n : Int) => w.cell? ⟨b, off + i, none⟩ = some (.int .i64 n)) len (fun i hlt => by
      obtain ⟨cs, y, e1, e2, e3⟩ := hi i hlt
      obtain ⟨n, rfl, _⟩ := DataW.trod_int he e3
      exact ⟨n, by simpa using e2 0 (by omega)⟩)
    subst hl
    exact ⟨_, cap, l, rfl, hm, hnil, fun _ => ⟨b, off, rfl, hb, hp⟩⟩

theorem open_ses {m b off : Nat} {cs : List Value} {y : DataW H × List MemPlace} (hc : ∀ j, j < 2 → w.cell? ⟨b, off + j, none⟩ = cs[j]?) (h : DataW.trod enc Try.prog w 0 (fun _ => true) held m 44 cs = some y) :
    ∃ t : PSes, SesAt (· < w.heap.size) w b off t := by
  obtain ⟨y0, y1, n, _, hl, h0, h1⟩ := trod_struct2 Try.underlying44 h
  rw [cells44] at hl
  rw [cells2] at h0
  rw [cells42] at h1
  obtain ⟨k, e0, _⟩ := DataW.trod_int Try.underlying2 h0
  match cs, hl with
  | [c0, c1], _ =>
    simp at e0 h1
    subst e0
    obtain ⟨a, c, l, rfl, _, _, ho⟩ := open_ints64 Try.underlying42 cells3 Try.underlying3 h1
    exact ⟨⟨k, l⟩, by simpa using hc 0 (by omega), a, c, by simpa using hc 1 (by omega), ho⟩

theorem open_sess {fuel : Nat} {v : Value} {x : DataW H × List MemPlace} (h : DataW.trod enc Try.prog w 0 (fun _ => true) held fuel 23 [v] = some x) :
    ∃ a c T, v = .slice a (List.length T) c ∧ List.length T ≤ maxLen ∧ (a = none → List.length T = 0) ∧ SessAt (· < w.heap.size) w a T := by
  obtain ⟨a, len, cap, rfl, hm, hnil, hx⟩ := slice_lies Try.underlying23 cells44 (by omega) h
  by_cases h0 : len = 0
  · subst h0
    exact ⟨a, cap, [], rfl, Nat.zero_le _, fun _ => rfl, fun h => absurd h (by simp)⟩
  · obtain ⟨b, off, rfl, hb, m, hi⟩ := hx (by omega)
    obtain ⟨l, hl, hp⟩ := list_of (p := fun i (t : PSes) => SesAt (· < w.heap.size) w b (off + i * 2) t) len (fun i hlt => by
      obtain ⟨cs, y, e1, e2, e3⟩ := hi i hlt
      exact open_ses e2 e3)
    subst hl
    exact ⟨_, cap, l, rfl, hm, hnil, fun _ => ⟨b, off, rfl, hb, hp⟩⟩
end
end Go.Proofs.Qxb6602646a
