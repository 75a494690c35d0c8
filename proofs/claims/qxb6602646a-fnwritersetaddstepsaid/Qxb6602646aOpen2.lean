/-
  A slice of slices of numbers, opened.
-/
import Derived.Test.Qxb6602646aOpen
import Derived.Test.Qxb6602646aCL
namespace Go.Proofs.Qxb6602646a
open Go.RowKit Go.Deep Go.ChangeShapes Go.WideShapes

theorem open_lists {H : Type} {enc : TypeId × Value → H} {w : World} {held : Bool} {fuel : Nat} {v : Value} {x : DataW H × List MemPlace} (h : DataW.trod enc Try.prog w 0 (fun _ => true) held fuel 58 [v] = some x) :
    ∃ a c L, v = .slice a (List.length L) c ∧ List.length L ≤ maxLen ∧ (a = none → List.length L = 0) ∧ ListsAt (· < w.heap.size) w a L := by
  obtain ⟨a, len, cap, rfl, hm, hnil, hx⟩ := slice_lies Try.underlying58 cells42 (by omega) h
  by_cases h0 : len = 0
  · subst h0
    exact ⟨a, cap, [], rfl, Nat.zero_le _, fun _ => rfl, fun h => absurd h (by simp)⟩
  · obtain ⟨b, off, rfl, hb, m, hi⟩ := hx (by omega)
    obtain ⟨l, hl, hp⟩ := list_of (p := fun i (t : List Int) => ∃ a' c', w.cell? ⟨b, off + i, none⟩ = some (.slice a' t.length c') ∧ IntsAt .i64 (· < w.heap.size) w a' t) len (fun i hlt => by
      obtain ⟨cs, y, e1, e2, e3⟩ := hi i hlt
      match cs, e1 with
      | [c0], _ =>
        obtain ⟨a', c', l', rfl, _, _, h5⟩ := open_ints64 Try.underlying42 cells3 Try.underlying3 e3
        exact ⟨l', a', c', by simpa using e2 0 (by omega), h5⟩)
    subst hl
    exact ⟨_, cap, l, rfl, hm, hnil, fun _ => ⟨b, off, rfl, hb, hp⟩⟩
end Go.Proofs.Qxb6602646a
