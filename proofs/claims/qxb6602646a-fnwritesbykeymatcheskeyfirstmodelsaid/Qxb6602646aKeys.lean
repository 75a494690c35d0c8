/-
  zzSortInt64s (48), zzSessionKeys (14).
-/
import Derived.Test.Qxb6602646aMen
namespace Go.Proofs.Qxb6602646a
open Go.RowKit

/-- Numbers as pairs. -/
def pr (c : Nat → Int) : Nat → Int × Int := fun i => (c i, 0)
theorem pr_upd (c : Nat → Int) (j : Nat) (x : Int) : upd (pr c) j (x, 0) = pr (upd c j x) := by
  funext q
  by_cases h : q = j <;> simp [upd, pr, h]
theorem kvLess_pr (x y : Int) : kvLess (x, 0) (y, 0) = decide (x < y) := by
  by_cases h : x < y
  · rw [decide_eq_true h, kvLess_iff]; exact .inl h
  · rw [decide_eq_false h, kvLess_false]; simp; omega
theorem SameMem.unpair {n : Nat} {c d : Nat → Int} (h : SameMem n (pr c) (pr d)) : SameMem n c d := by
  intro x
  have := h (x, 0)
  simpa [pr] using this
def IRow (w : World) (g n : Nat) (c : Nat → Int) : Prop := ∃ N f, w.rowIs g 2 N f ∧ n ≤ N ∧ ∀ i, i < n → f i = .int .i64 (c i)
theorem IRow.cell {w : World} {g n : Nat} {c : Nat → Int} (h : IRow w g n c) {i : Nat} (hi : i < n) : w.cell? ⟨g, i, none⟩ = some (.int .i64 (c i)) ∧ w.frozen? ⟨g, i, none⟩ = false := by
  obtain ⟨N, f, h1, h2, h3⟩ := h
  exact ⟨by rw [h1.cell (by omega), h3 i hi], h1.frozen _⟩
theorem IRow.lt {w : World} {g n : Nat} {c : Nat → Int} (h : IRow w g n c) : g < w.heap.size := by
  obtain ⟨N, f, h1, h2, h3⟩ := h
  exact h1.lt
theorem IRow.kept {w w' : World} {g n : Nat} {c : Nat → Int} (h : IRow w g n c) (e : w'.heap[g]? = w.heap[g]?) : IRow w' g n c := by
  obtain ⟨N, f, h1, h2, h3⟩ := h
  exact ⟨N, f, h1.of_block e, h2, h3⟩
theorem IRow.set {w : World} {g n : Nat} {c : Nat → Int} (h : IRow w g n c) (j : Nat) (x : Int) : IRow (w.setCell ⟨g, j, none⟩ (.int .i64 x)) g n (upd c j x) := by
  obtain ⟨N, f, h1, h2, h3⟩ := h
  refine ⟨N, _, h1.set j _, h2, fun i hi => ?_⟩
  by_cases e : i = j
  · subst e; rw [if_pos rfl]; simp [upd]
  · rw [if_neg e, h3 i hi]; simp [upd, e]
theorem grown_set1 {w0 w : World} {g : Nat} (h : w0.grownBy w (some g)) (o : Nat) (x : Value) : w0.grownBy (w.setCell ⟨g, o, none⟩ x) (some g) :=
  ⟨h.os, h.tape, h.output, by simpa [World.setCell] using h.size, fun k hk hne => by
    have hne' : k ≠ g := fun e => hne (by rw [e])
    rw [Below.heap_setCell _ _ _ _ hne']
    exact h.block k hk hne⟩
def sort48Post (g n : Nat) (c : Nat → Int) (w : World) (e : Ending) (w' : World) : Prop :=
  e = .returned (.tuple #[]) ∧ ∃ c', IRow w' g n c' ∧ SortedTo (pr c') n ∧ SameMem n c' c ∧ w.grownBy w' (some g)
def SOut (g n : Nat) (c0 : Nat → Int) (w : World) (i : Nat) (wr : World) : Prop :=
  ∃ c, IRow wr g n c ∧ SortedTo (pr c) i ∧ SameMem n (pr c) (pr c0) ∧ w.grownBy wr (some g)
def SIn (g n : Nat) (c0 : Nat → Int) (w : World) (i : Nat) (x : Int) (j : Nat) (wr : World) : Prop :=
  ∃ c c1, IRow wr g n c ∧ Hole n c1 i (x, 0) j (pr c) ∧ SameMem n c1 (pr c0) ∧ w.grownBy wr (some g)
theorem SIn.step {g n : Nat} {c0 c : Nat → Int} {c1 : Nat → Int × Int} {w wr : World} {i j : Nat} {x : Int} (hj : 0 < j) (h1 : IRow wr g n c) (h2 : Hole n c1 i (x, 0) j (pr c)) (h3 : SameMem n c1 (pr c0)) (h4 : w.grownBy wr (some g)) (hin : i < n) (hl : x < c (j - 1)) :
    SIn g n c0 w i x (j - 1) (wr.setCell ⟨g, j, none⟩ (.int .i64 (c (j - 1)))) := by
  obtain ⟨m, rfl⟩ : ∃ m, j = m + 1 := ⟨j - 1, by omega⟩
  refine ⟨upd c (m + 1) (c m), c1, h1.set (m + 1) (c m), ?_, h3, grown_set1 h4 _ _⟩
  rw [← pr_upd]
  exact h2.step hin (by rw [show pr c m = (c m, 0) from rfl, kvLess_pr]; exact decide_eq_true hl)
theorem SIn.done {g n : Nat} {c0 c : Nat → Int} {c1 : Nat → Int × Int} {w wr : World} {i j : Nat} {x : Int} (h1 : IRow wr g n c) (h2 : Hole n c1 i (x, 0) j (pr c)) (h3 : SameMem n c1 (pr c0)) (h4 : w.grownBy wr (some g)) (hj : j = 0 ∨ ¬ x < c (j - 1)) :
    SOut g n c0 w (i + 1) (wr.setCell ⟨g, j, none⟩ (.int .i64 x)) := by
  refine ⟨upd c j x, h1.set j x, ?_, ?_, grown_set1 h4 _ _⟩
  · rw [← pr_upd]
    refine h2.done ?_
    by_cases e : j = 0
    · exact .inl e
    · refine .inr ⟨j - 1, by omega, ?_⟩
      rw [show pr c (j - 1) = (c (j - 1), 0) from rfl, kvLess_pr]
      rcases hj with h | h
      · exact absurd h e
      · exact decide_eq_false h
  · rw [← pr_upd]
    exact h2.mem.trans h3

set_option maxHeartbeats 1000000 in
set_option maxRecDepth 20000 in
theorem sort48 (g n cap : Nat) (c0 : Nat → Int) (w : World) (hr : IRow w g n c0) (hn : n ≤ 1048576) :
    Calls Try.prog 48 #[.slice (some ⟨g, 0, none⟩) n cap] w (sort48Post g n c0 w) := by
  have HR := hide hr
  clear hr
  go_enter Try.func48, Try.ntmps48
  go_wp2
  go_loopw [2] (fun i wr => ∃ k : Nat, 1 ≤ k ∧ (k ≤ n ∨ k = 1) ∧ i = .int .i64 k ∧ SOut g n c0 w k wr) (fun i _ => n - (intOf i).toNat)
  case atStart => exact ⟨1, Nat.le_refl _, .inr rfl, rfl, c0, HR.out, fun p q h1 h2 => by omega, SameMem.refl _ _, World.grownBy.refl _ _⟩
  case round =>
    rename World => wo
    obtain ⟨k, hk1, hk2, rfl, c, h1, h2, h3, h4⟩ := hrel
    by_cases hlt : k < n
    · obtain ⟨x1, x2⟩ := h1.cell hlt
      have HI : Hid (SIn g n c0 w k (c k) k wo) := ⟨c, pr c, h1, Hole.start h2, h3, h4⟩
      generalize c k = X at x1 HI
      clear h1 h2 h3 h4 x2 hk2
      go_wp2
      go_loopw [4] (fun v wr => ∃ j : Nat, j ≤ k ∧ v = .int .i64 j ∧ SIn g n c0 w k X j wr) (fun v _ => (intOf v).toNat)
      case atStart => exact ⟨k, Nat.le_refl _, rfl, HI.out⟩
      case round =>
        obtain ⟨j, hjk, rfl, c, c1, h1, h2, h3, h4⟩ := hrel
        clear x1 HI
        obtain ⟨y3, z3⟩ := h1.cell (i := j) (by omega)
        by_cases hj : 0 < j
        · have hjI : (0 : Int) < (j : Int) := by omega
          have hjn : (j : Int) - 1 < (n : Int) := by omega
          have hjz : (0 : Int) ≤ (j : Int) - 1 := by omega
          have hwr : IntKind.i64.wrap ((j : Int) - 1) = (j : Int) - 1 := by rw [IntKind.wrap_i64]; omega
          have htn : ((j : Int) - 1).toNat = j - 1 := by omega
          have a1 : (1 : Int) ≤ (j : Int) := by omega
          have a2 : ¬ (j : Int) < 1 := by omega
          have a3 : j ≠ 0 := by omega
          have a5 : 1 ≤ j := by omega
          have a6 : (j : Int) < (n : Int) + 1 := by omega
          obtain ⟨y1, _⟩ := h1.cell (i := j - 1) (by omega)
          by_cases hl : X < c (j - 1)
          · have HN := hide (SIn.step hj h1 h2 h3 h4 hlt hl)
            generalize c (j - 1) = Y at y1 hl HN
            clear h1 h2 h3 h4
            go_wp2
            go_roundw
            case rel => exact ⟨j - 1, by omega, by go_num, HN.out⟩
            case measure => simp [intOf]; omega
          · have HN := hide (SIn.done h1 h2 h3 h4 (.inr hl))
            generalize c (j - 1) = Y at y1 hl
            clear h1 h2 h3 h4
            go_wp2
            go_roundw
            case rel => exact ⟨k + 1, by omega, .inl (by omega), by go_num, HN.out⟩
            case measure => simp [intOf]; omega
        · have HN := hide (SIn.done h1 h2 h3 h4 (.inl (by omega)))
          have hd : decide ((0 : Int) < (j : Int)) = false := by simp; omega
          clear h1 h2 h3 h4
          go_wp2
          go_roundw
          case rel => exact ⟨k + 1, by omega, .inl (by omega), by go_num, HN.out⟩
          case measure => simp [intOf]; omega
    · go_wp2
      go_end0
      refine ⟨rfl, c, h1, ?_, h3.unpair, h4⟩
      intro p q a1 a2
      exact h2 p q a1 (by omega)
set_option maxHeartbeats 400000 in
theorem sort48_zero (ao : Option Addr) (cap : Nat) (w : World) : Calls Try.prog 48 #[.slice ao 0 cap] w fun e w' => e = .returned (.tuple #[]) ∧ w' = w := by
  go_enter Try.func48, Try.ntmps48
  go_wp2
  refine wp_loop_rounds 1 ?_
  rw [rounds_succ]
  go_wp2
  go_end0
  exact ⟨rfl, rfl⟩
end Go.Proofs.Qxb6602646a
