/-
  zzCloneInts, zzCloneInt64s.
-/
import Derived.Test.Qxb6602646aBase
namespace Go.Proofs.Qxb6602646a
open Go.RowKit

theorem info3 : (Try.prog.info? 3).map (fun i => (i.zero, i.size, i.bytes)) = some (some (.int .i64 0), 1, 8) := by kernel_rfl
theorem info2 : (Try.prog.info? 2).map (fun i => (i.zero, i.size, i.bytes)) = some (some (.int .i64 0), 1, 8) := by kernel_rfl
theorem size3 : (Try.prog.info? 3).map (·.size) = some 1 := by kernel_rfl
theorem size2 : (Try.prog.info? 2).map (·.size) = some 1 := by kernel_rfl

theorem eql_nil42 (w : World) (a : Option Addr) (n c : Nat) : (binOp .eql 42 (.slice a n c) (.slice none 0 0)).run Try.prog w = .ok (.bool a.isNone) w := Lib.run_eql_slice_nil w 42 3 a n c 0 0 Try.underlying42
theorem eql_nil31 (w : World) (a : Option Addr) (n c : Nat) : (binOp .eql 31 (.slice a n c) (.slice none 0 0)).run Try.prog w = .ok (.bool a.isNone) w := Lib.run_eql_slice_nil w 31 2 a n c 0 0 Try.underlying31
attribute [local go_sem] eql_nil42 eql_nil31

/-- A clone of a slice of numbers (e: the element's type): nil stays nil; else a new row. -/
def clonePost (et : TypeId) (a : Option Addr) (l : List Int) (w : World) (e : Ending) (w' : World) : Prop :=
  (a = none ∧ l = [] ∧ e = .returned (.slice none 0 0) ∧ w' = w) ∨
  (a ≠ none ∧ e = .returned (.slice (some ⟨w.heap.size, 0, none⟩) l.length l.length) ∧ w'.rowIs w.heap.size et l.length (fun j => .int .i64 (l.getD j 0)) ∧ w'.heap.size = w.heap.size + 1 ∧ Below w.heap.size w w')

/-- 'copy(b, a)' behind 'b := make([]int, len(a))'. -/
theorem run_copy_clone (t et : TypeId) (ht : Try.prog.underlying t = some (.slice et)) (hsz : (Try.prog.info? et).map (·.size) = some 1) (ad : Addr) (c : Nat) (S : Nat → Prop) (l : List Int) (w : World) (h : IntsAt .i64 S w (some ad) l)
    (hS : ∀ b, S b → b < w.heap.size) (cur : Array Value) (hcur : cur.size = l.length) :
    ∃ w2, (Builtin.copy_ #[t, t] 3 #[.slice (some ⟨w.heap.size, 0, none⟩) l.length l.length, .slice (some ad) l.length c]).run Try.prog (w.alloc (.cells cur et)) = .ok (.int .i64 l.length) w2 ∧
      w2.rowIs w.heap.size et l.length (fun j => .int .i64 (l.getD j 0)) ∧ w2.heap.size = w.heap.size + 1 ∧ Below w.heap.size w w2 := by
  have hg : (w.alloc (.cells cur et)).heap[w.heap.size]? = some (.cells cur et (0, 0)) := (MapKept.heap_alloc w _).1
  have hb : Below w.heap.size w (w.alloc (.cells cur et)) := (Below.refl _ _).alloc (Nat.le_refl _) _
  by_cases h0 : l.length = 0
  · refine ⟨_, by rw [run_copy_none (P := Try.prog) _ t t 3 et _ _ _ _ _ _ ht hsz (by simp [h0])]; simp [goInt, h0], ⟨cur, hg, hcur, fun i hi => by omega⟩, by simp, hb⟩
  · obtain ⟨b, off, ha, hSb, hx⟩ := h (by omega)
    cases ha
    have hrun := run_copy_row (P := Try.prog) (w.alloc (.cells cur et)) t t 3 et w.heap.size 0 l.length l.length ⟨b, off, none⟩ l.length c cur et (l.map (Value.int .i64)) ht hsz hg (by simp) (by
      intro j v hv
      have hj : j < l.length := by
        have := (List.getElem?_eq_some_iff.1 hv).1
        simpa using this
      have hv' : v = .int .i64 l[j] := by simpa [hj] using hv.symm
      rw [Addr.add_lit, hv', hb.cell (p := ⟨b, _, none⟩) (hS b hSb)]
      exact hx j hj) (by simp [hcur]) (by intro v hv; obtain ⟨x, _, rfl⟩ := List.mem_map.1 hv; rfl)
    refine ⟨_, hrun.trans (by simp [goInt]; rfl), ⟨_, setRow_heap _ _ _ _ _ _ hg, by simp [hcur], fun i hi => ?_⟩, by simp [World.setRow], below_setRow hb (Nat.le_refl _) _⟩
    simp [hi]
    rw [List.getElem?_append_left (by simpa using hi)]
    simp [hi]

set_option maxHeartbeats 400000 in
set_option maxRecDepth 20000 in
theorem cloneInts_any (a : Option Addr) (c : Nat) (S : Nat → Prop) (l : List Int) (w : World) (h : IntsAt .i64 S w a l) (hS : ∀ b, S b → b < w.heap.size) (hn : l.length ≤ 1048576) :
    Calls Try.prog 29 #[.slice a l.length c] w (clonePost 3 a l w) := by
  cases a with
  | none =>
    have hl : l = [] := by
      cases l with
      | nil => rfl
      | cons x l => obtain ⟨b, off, h1, _⟩ := h (by simp); cases h1
    subst hl
    clear h hS hn
    show Calls Try.prog 29 #[.slice none 0 c] w _
    go_enter Try.func29, Try.ntmps29
    go_wp2
    go_ret
    exact .inl ⟨rfl, rfl, rfl, rfl⟩
  | some ad =>
    obtain ⟨cur, hcur⟩ : ∃ cur, cur = madeCells #[.int .i64 0] (l.length * 1) := ⟨_, rfl⟩
    have hmk := fun w => run_make_rows (P := Try.prog) 42 3 #[.int .i64 0] 1 8 Try.underlying42 (.int .i64 0) rfl info3 .i64 .i64 l.length (by omega) (by omega) w
    rw [← hcur] at hmk
    have hsz : cur.size = l.length := by rw [hcur, size_madeCells]; omega
    obtain ⟨w2, hcp, h1, h2, h3⟩ := run_copy_clone 42 3 Try.underlying42 size3 ad c S l w h hS cur hsz
    have HR : Hid (clonePost 3 (some ad) l w (.returned (.slice (some ⟨w.heap.size, 0, none⟩) l.length l.length)) w2) := .inr ⟨by simp, rfl, h1, h2, h3⟩
    clear hcur hsz h hn hS h1 h2 h3
    go_enter Try.func29, Try.ntmps29
    go_wp2
    go_ret
    exact HR.out

set_option maxHeartbeats 400000 in
set_option maxRecDepth 20000 in
theorem cloneInt64s_any (a : Option Addr) (c : Nat) (S : Nat → Prop) (l : List Int) (w : World) (h : IntsAt .i64 S w a l) (hS : ∀ b, S b → b < w.heap.size) (hn : l.length ≤ 1048576) :
    Calls Try.prog 30 #[.slice a l.length c] w (clonePost 2 a l w) := by
  cases a with
  | none =>
    have hl : l = [] := by
      cases l with
      | nil => rfl
      | cons x l => obtain ⟨b, off, h1, _⟩ := h (by simp); cases h1
    subst hl
    clear h hS hn
    show Calls Try.prog 30 #[.slice none 0 c] w _
    go_enter Try.func30, Try.ntmps30
    go_wp2
    go_ret
    exact .inl ⟨rfl, rfl, rfl, rfl⟩
  | some ad =>
    obtain ⟨cur, hcur⟩ : ∃ cur, cur = madeCells #[.int .i64 0] (l.length * 1) := ⟨_, rfl⟩
    have hmk := fun w => run_make_rows (P := Try.prog) 31 2 #[.int .i64 0] 1 8 Try.underlying31 (.int .i64 0) rfl info2 .i64 .i64 l.length (by omega) (by omega) w
    rw [← hcur] at hmk
    have hsz : cur.size = l.length := by rw [hcur, size_madeCells]; omega
    obtain ⟨w2, hcp, h1, h2, h3⟩ := run_copy_clone 31 2 Try.underlying31 size2 ad c S l w h hS cur hsz
    have HR : Hid (clonePost 2 (some ad) l w (.returned (.slice (some ⟨w.heap.size, 0, none⟩) l.length l.length)) w2) := .inr ⟨by simp, rfl, h1, h2, h3⟩
    clear hcur hsz h hn hS h1 h2 h3
    go_enter Try.func30, Try.ntmps30
    go_wp2
    go_ret
    exact HR.out
end Go.Proofs.Qxb6602646a
