/-
  zzKVLess, zzSortKVs: an insertion sort of pairs.
-/
import Derived.Test.Qxb6602646aBase
namespace Go.Proofs.Qxb6602646a
open Go.RowKit

/-! ### The plain order -/
def kvLess (a b : Int × Int) : Bool := decide (a.1 < b.1) || (decide (a.1 = b.1) && decide (a.2 < b.2))
theorem kvLess_iff (a b : Int × Int) : kvLess a b = true ↔ (a.1 < b.1 ∨ (a.1 = b.1 ∧ a.2 < b.2)) := by simp [kvLess]
theorem kvLess_false (a b : Int × Int) : kvLess a b = false ↔ ¬ (a.1 < b.1 ∨ (a.1 = b.1 ∧ a.2 < b.2)) := by
  rw [← kvLess_iff]; simp
theorem kvLe_trans {a b c : Int × Int} (h1 : kvLess b a = false) (h2 : kvLess c b = false) : kvLess c a = false := by
  rw [kvLess_false] at *; omega
theorem kvLess_asymm {a b : Int × Int} (h : kvLess a b = true) : kvLess b a = false := by
  rw [kvLess_iff] at h; rw [kvLess_false]; omega
theorem kv_eq_of {a b : Int × Int} (h1 : kvLess a b = false) (h2 : kvLess b a = false) : a = b := by
  rw [kvLess_false] at *
  exact Prod.ext (by omega) (by omega)

def upd {α : Type} (c : Nat → α) (j : Nat) (x : α) : Nat → α := fun q => if q = j then x else c q
def SortedTo (c : Nat → Int × Int) (n : Nat) : Prop := ∀ p q, p < q → q < n → kvLess (c q) (c p) = false
def SameMem {α : Type} (n : Nat) (c d : Nat → α) : Prop := ∀ x, (∃ q, q < n ∧ c q = x) ↔ (∃ q, q < n ∧ d q = x)
theorem SameMem.refl {α : Type} (n : Nat) (c : Nat → α) : SameMem n c c := fun _ => Iff.rfl
theorem SameMem.trans {α : Type} {n : Nat} {a b c : Nat → α} (h : SameMem n a b) (k : SameMem n b c) : SameMem n a c := fun x => (h x).trans (k x)

/-- The state of the inner loop: x is to be put at place j. -/
structure Hole (n : Nat) (c0 : Nat → Int × Int) (i : Nat) (x : Int × Int) (j : Nat) (c : Nat → Int × Int) : Prop where
  le : j ≤ i
  mem : SameMem n (upd c j x) c0
  srt : ∀ p q, p < q → q ≤ i → p ≠ j → q ≠ j → kvLess (c q) (c p) = false
  gt : ∀ q, j < q → q ≤ i → kvLess x (c q) = true
theorem Hole.start {n i : Nat} {c : Nat → Int × Int} (h : SortedTo c i) : Hole n c i (c i) i c := by
  refine ⟨Nat.le_refl _, ?_, fun p q h1 h2 h3 h4 => h p q h1 (by omega), fun q h1 h2 => by omega⟩
  have : upd c i (c i) = c := by funext q; unfold upd; split <;> simp_all
  rw [this]
  exact SameMem.refl _ _
theorem Hole.step {n i j : Nat} {c0 c : Nat → Int × Int} {x : Int × Int} (h : Hole n c0 i x (j + 1) c) (hin : i < n) (hl : kvLess x (c j) = true) : Hole n c0 i x j (upd c (j + 1) (c j)) := by
  obtain ⟨h1, h2, h3, h4⟩ := h
  refine ⟨by omega, SameMem.trans ?_ h2, ?_, ?_⟩
  · intro y
    constructor
    · rintro ⟨q, hq, rfl⟩
      by_cases e1 : q = j
      · exact ⟨j + 1, by omega, by simp [upd, e1]⟩
      · by_cases e2 : q = j + 1
        · exact ⟨j, by omega, by simp [upd, e2]⟩
        · exact ⟨q, hq, by simp [upd, e1, e2]⟩
    · rintro ⟨q, hq, rfl⟩
      by_cases e1 : q = j
      · exact ⟨j + 1, by omega, by simp [upd, e1]⟩
      · by_cases e2 : q = j + 1
        · exact ⟨j, by omega, by simp [upd, e2]⟩
        · exact ⟨q, hq, by simp [upd, e1, e2]⟩
  · intro p q a1 a2 a3 a4
    unfold upd
    by_cases e1 : q = j + 1
    · rw [if_pos e1, if_neg (by omega)]
      exact h3 p j (by omega) (by omega) (by omega) (by omega)
    · rw [if_neg e1]
      by_cases e2 : p = j + 1
      · rw [if_pos e2]
        exact h3 j q (by omega) a2 (by omega) e1
      · rw [if_neg e2]
        exact h3 p q a1 a2 e2 e1
  · intro q a1 a2
    unfold upd
    by_cases e1 : q = j + 1
    · rw [if_pos e1]; exact hl
    · rw [if_neg e1]; exact h4 q (by omega) a2
theorem Hole.done {n i j : Nat} {c0 c : Nat → Int × Int} {x : Int × Int} (h : Hole n c0 i x j c) (hj : j = 0 ∨ ∃ m, j = m + 1 ∧ kvLess x (c m) = false) : SortedTo (upd c j x) (i + 1) := by
  intro p q h1 h2
  unfold upd
  by_cases e1 : q = j
  · rw [if_pos e1, if_neg (by omega)]
    rcases hj with h0 | ⟨m, hm, hl⟩
    · omega
    · by_cases e : p = m
      · rw [e]; exact hl
      · exact kvLe_trans (h.srt p m (by omega) (by have := h.le; omega) (by omega) (by omega)) hl
  · rw [if_neg e1]
    by_cases e2 : p = j
    · rw [if_pos e2]
      exact kvLess_asymm (h.gt q (by omega) (by omega))
    · rw [if_neg e2]
      exact h.srt p q h1 (by omega) e2 e1

/-! ### The walks -/
def kvVal (p : Int × Int) : Value := .agg #[.int .i64 p.1, .int .i64 p.2]
def kvLessPost (a b : Int × Int) (w : World) (e : Ending) (w' : World) : Prop :=
  e = .returned (.bool (kvLess a b)) ∧ w' = (w.alloc (.cells #[.int .i64 a.1, .int .i64 a.2] 52)).alloc (.cells #[.int .i64 b.1, .int .i64 b.2] 52)
set_option maxHeartbeats 400000 in
theorem kvLess_any (a1 a2 b1 b2 : Int) (w : World) : Calls Try.prog 52 #[.agg #[.int .i64 a1, .int .i64 a2], .agg #[.int .i64 b1, .int .i64 b2]] w (kvLessPost (a1, a2) (b1, b2) w) := by
  by_cases h1 : a1 < b1
  · have e1 : kvLess (a1, a2) (b1, b2) = true := by rw [kvLess_iff]; exact .inl h1
    have E1 := hide e1
    clear e1
    go_enter Try.func52, Try.ntmps52
    go_wp2
    go_ret
    exact ⟨by rw [E1.out]; rfl, rfl⟩
  · by_cases h2 : a1 = b1
    · subst h2
      by_cases h3 : a2 < b2
      · have e1 : kvLess (a1, a2) (a1, b2) = true := by rw [kvLess_iff]; exact .inr ⟨rfl, h3⟩
        have E1 := hide e1
        clear e1
        go_enter Try.func52, Try.ntmps52
        go_wp2
        go_ret
        exact ⟨by rw [E1.out]; rfl, rfl⟩
      · have e1 : kvLess (a1, a2) (a1, b2) = false := by rw [kvLess_false]; simp; omega
        have E1 := hide e1
        have hd : decide (a2 < b2) = false := by simpa using h3
        clear e1
        go_enter Try.func52, Try.ntmps52
        go_wp2
        go_ret
        exact ⟨by rw [E1.out]; rfl, rfl⟩
    · have e1 : kvLess (a1, a2) (b1, b2) = false := by rw [kvLess_false]; simp; omega
      have E1 := hide e1
      have hd : decide (a1 < b1) = false := by simpa using h1
      have hd2 : (a1 == b1) = false := by simpa using h2
      clear e1
      go_enter Try.func52, Try.ntmps52
      go_wp2
      go_ret
      exact ⟨by rw [E1.out]; rfl, rfl⟩

/-- Block g is a row whose first n pairs are c. -/
def KvRow (w : World) (g n : Nat) (c : Nat → Int × Int) : Prop :=
  ∃ N f, w.rowIs g 52 N f ∧ n * 2 ≤ N ∧ ∀ i, i < n → f (i * 2) = .int .i64 (c i).1 ∧ f (i * 2 + 1) = .int .i64 (c i).2
theorem KvRow.cells {w : World} {g n : Nat} {c : Nat → Int × Int} (h : KvRow w g n c) {i : Nat} (hi : i < n) :
    w.cell? ⟨g, i * 2, none⟩ = some (.int .i64 (c i).1) ∧ w.cell? ⟨g, i * 2 + 1, none⟩ = some (.int .i64 (c i).2) ∧ w.frozen? ⟨g, i * 2, none⟩ = false ∧ w.frozen? ⟨g, i * 2 + 1, none⟩ = false := by
  obtain ⟨N, f, h1, h2, h3⟩ := h
  obtain ⟨a1, a2⟩ := h3 i hi
  exact ⟨by rw [h1.cell (by omega), a1], by rw [h1.cell (by omega), a2], h1.frozen _, h1.frozen _⟩
theorem KvRow.lt {w : World} {g n : Nat} {c : Nat → Int × Int} (h : KvRow w g n c) : g < w.heap.size := by
  obtain ⟨N, f, h1, h2, h3⟩ := h
  exact h1.lt
theorem KvRow.kept {w w' : World} {g n : Nat} {c : Nat → Int × Int} (h : KvRow w g n c) (e : w'.heap[g]? = w.heap[g]?) : KvRow w' g n c := by
  obtain ⟨N, f, h1, h2, h3⟩ := h
  exact ⟨N, f, h1.of_block e, h2, h3⟩
theorem KvRow.set {w : World} {g n : Nat} {c : Nat → Int × Int} (h : KvRow w g n c) (j : Nat) (x : Int × Int) :
    KvRow ((w.setCell ⟨g, j * 2, none⟩ (.int .i64 x.1)).setCell ⟨g, j * 2 + 1, none⟩ (.int .i64 x.2)) g n (upd c j x) := by
  obtain ⟨N, f, h1, h2, h3⟩ := h
  refine ⟨N, _, (h1.set (j * 2) _).set (j * 2 + 1) _, h2, fun i hi => ?_⟩
  obtain ⟨a1, a2⟩ := h3 i hi
  by_cases e : i = j
  · subst e
    constructor
    · rw [if_neg (by omega), if_pos rfl]; simp [upd]
    · rw [if_pos rfl]; simp [upd]
  · constructor
    · rw [if_neg (by omega), if_neg (by omega), a1]; simp [upd, e]
    · rw [if_neg (by omega), if_neg (by omega), a2]; simp [upd, e]
theorem grown_set2 {w0 w : World} {g : Nat} (h : w0.grownBy w (some g)) (o : Nat) (x y : Value) : w0.grownBy ((w.setCell ⟨g, o, none⟩ x).setCell ⟨g, o + 1, none⟩ y) (some g) :=
  ⟨h.os, h.tape, h.output, by simpa [World.setCell] using h.size, fun k hk hne => by
    have hne' : k ≠ g := fun e => hne (by rw [e])
    rw [Below.heap_setCell _ _ _ _ hne', Below.heap_setCell _ _ _ _ hne']
    exact h.block k hk hne⟩
theorem grown_below {w0 w w' : World} {row : Option Nat} (h : w0.grownBy w row) (k : Below w.heap.size w w') : w0.grownBy w' row :=
  ⟨k.os.trans h.os, k.tape.trans h.tape, k.output.trans h.output, Nat.le_trans h.size k.size, fun i hi hne => (k.block i (Nat.lt_of_lt_of_le hi h.size)).trans (h.block i hi hne)⟩
theorem grown_drew {w0 w : World} {row : Option Nat} (h : w0.grownBy w row) : w0.grownBy w.drew row := ⟨h.os, h.tape, h.output, h.size, h.block⟩

def sortPost (g n : Nat) (c : Nat → Int × Int) (w : World) (e : Ending) (w' : World) : Prop :=
  e = .returned (.tuple #[]) ∧ ∃ c', KvRow w' g n c' ∧ SortedTo c' n ∧ SameMem n c' c ∧ w.grownBy w' (some g)
/-- The outer loop's state. -/
def SortOut (g n : Nat) (c0 : Nat → Int × Int) (w : World) (i : Nat) (wr : World) : Prop :=
  ∃ c, KvRow wr g n c ∧ SortedTo c i ∧ SameMem n c c0 ∧ w.grownBy wr (some g)
/-- The inner loop's: bx: the block of x. -/
def SortIn (g n : Nat) (c0 : Nat → Int × Int) (w : World) (i bx : Nat) (x : Int × Int) (j : Nat) (wr : World) : Prop :=
  ∃ c c1, KvRow wr g n c ∧ Hole n c1 i x j c ∧ SameMem n c1 c0 ∧ w.grownBy wr (some g) ∧ wr.cell? ⟨bx, 0, none⟩ = some (.int .i64 x.1) ∧ wr.cell? ⟨bx, 1, none⟩ = some (.int .i64 x.2) ∧ bx ≠ g

theorem sortIn_start {g n : Nat} {c0 c : Nat → Int × Int} {w wr : World} {i : Nat} (h1 : KvRow wr g n c) (h2 : SortedTo c i) (h3 : SameMem n c c0) (h4 : w.grownBy wr (some g)) :
    SortIn g n c0 w i wr.heap.size (c i) i (wr.alloc (.cells #[.int .i64 (c i).1, .int .i64 (c i).2] 52)) := by
  have hlt := h1.lt
  refine ⟨c, c, h1.kept ((MapKept.heap_alloc wr _).2 g hlt), Hole.start h2, h3, grown_below h4 ((Below.refl _ _).alloc (Nat.le_refl _) _), cell_box _ _ _ _ _ rfl, cell_box _ _ _ _ _ rfl, by omega⟩
theorem sortIn_step {g n : Nat} {c0 c c1 : Nat → Int × Int} {w wr w1 : World} {i bx j : Nat} {x : Int × Int} (h1 : KvRow wr g n c) (h2 : Hole n c1 i x (j + 1) c) (h3 : SameMem n c1 c0) (h4 : w.grownBy wr (some g))
    (h5 : wr.cell? ⟨bx, 0, none⟩ = some (.int .i64 x.1)) (h6 : wr.cell? ⟨bx, 1, none⟩ = some (.int .i64 x.2)) (h7 : bx ≠ g) (hin : i < n) (hl : kvLess x (c j) = true) (hb : Below wr.heap.size wr w1) :
    SortIn g n c0 w i bx x j ((w1.setCell ⟨g, (j + 1) * 2, none⟩ (.int .i64 (c j).1)).setCell ⟨g, (j + 1) * 2 + 1, none⟩ (.int .i64 (c j).2)) := by
  have hlt := h1.lt
  have hbl := World.block_lt_of_cell? wr _ h5
  refine ⟨upd c (j + 1) (c j), c1, (h1.kept (hb.block g hlt)).set (j + 1) (c j), h2.step hin hl, h3, grown_set2 (grown_below h4 hb) _ _ _, ?_, ?_, h7⟩
  · rw [World.cell?_of_block (w := w1) (a := ⟨bx, 0, none⟩) (by rw [Below.heap_setCell _ _ _ _ h7, Below.heap_setCell _ _ _ _ h7]), hb.cell (p := ⟨bx, 0, none⟩) hbl]; exact h5
  · rw [World.cell?_of_block (w := w1) (a := ⟨bx, 1, none⟩) (by rw [Below.heap_setCell _ _ _ _ h7, Below.heap_setCell _ _ _ _ h7]), hb.cell (p := ⟨bx, 1, none⟩) hbl]; exact h6
theorem sortIn_done {g n : Nat} {c0 c c1 : Nat → Int × Int} {w wr w1 : World} {i j : Nat} {x : Int × Int} (h1 : KvRow wr g n c) (h2 : Hole n c1 i x j c) (h3 : SameMem n c1 c0) (h4 : w.grownBy wr (some g))
    (hj : j = 0 ∨ ∃ m, j = m + 1 ∧ kvLess x (c m) = false) (hb : Below wr.heap.size wr w1) :
    SortOut g n c0 w (i + 1) ((w1.setCell ⟨g, j * 2, none⟩ (.int .i64 x.1)).setCell ⟨g, j * 2 + 1, none⟩ (.int .i64 x.2)) :=
  ⟨upd c j x, (h1.kept (hb.block g h1.lt)).set j x, h2.done hj, h2.mem.trans h3, grown_set2 (grown_below h4 hb) _ _ _⟩

theorem SortIn.grow {g n : Nat} {c0 : Nat → Int × Int} {w wr w1 : World} {i bx j : Nat} {x : Int × Int} (h : SortIn g n c0 w i bx x j wr) (hb : Below wr.heap.size wr w1) : SortIn g n c0 w i bx x j w1 := by
  obtain ⟨c, c1, h1, h2, h3, h4, h5, h6, h7⟩ := h
  exact ⟨c, c1, h1.kept (hb.block g h1.lt), h2, h3, grown_below h4 hb, (hb.cell (p := ⟨bx, 0, none⟩) (World.block_lt_of_cell? wr _ h5)).trans h5, (hb.cell (p := ⟨bx, 1, none⟩) (World.block_lt_of_cell? wr _ h6)).trans h6, h7⟩
theorem SortOut.grow {g n : Nat} {c0 : Nat → Int × Int} {w wr w1 : World} {i : Nat} (h : SortOut g n c0 w i wr) (hb : Below wr.heap.size wr w1) : SortOut g n c0 w i w1 := by
  obtain ⟨c, h1, h2, h3, h4⟩ := h
  exact ⟨c, h1.kept (hb.block g h1.lt), h2, h3, grown_below h4 hb⟩
theorem below_two (w : World) (o o' : Obj) : Below w.heap.size w ((w.alloc o).alloc o').drew := (((Below.refl _ _).alloc (Nat.le_refl _) o).alloc (by simp) o').drew
theorem sortIn_step' {g n : Nat} {c0 c c1 : Nat → Int × Int} {w wr w1 : World} {i bx j : Nat} {x : Int × Int} (hj : 0 < j) (h1 : KvRow wr g n c) (h2 : Hole n c1 i x j c) (h3 : SameMem n c1 c0) (h4 : w.grownBy wr (some g))
    (h5 : wr.cell? ⟨bx, 0, none⟩ = some (.int .i64 x.1)) (h6 : wr.cell? ⟨bx, 1, none⟩ = some (.int .i64 x.2)) (h7 : bx ≠ g) (hin : i < n) (hl : kvLess x (c (j - 1)) = true) (hb : Below wr.heap.size wr w1) :
    SortIn g n c0 w i bx x (j - 1) ((w1.setCell ⟨g, j * 2, none⟩ (.int .i64 (c (j - 1)).1)).setCell ⟨g, j * 2 + 1, none⟩ (.int .i64 (c (j - 1)).2)) := by
  obtain ⟨m, rfl⟩ : ∃ m, j = m + 1 := ⟨j - 1, by omega⟩
  exact sortIn_step h1 h2 h3 h4 h5 h6 h7 hin hl hb

set_option maxHeartbeats 1000000 in
set_option maxRecDepth 20000 in
theorem sortKVs_any (g n cap : Nat) (c0 : Nat → Int × Int) (w : World) (hr : KvRow w g n c0) (hn : n ≤ 1048576) :
    Calls Try.prog 23 #[.slice (some ⟨g, 0, none⟩) n cap] w (sortPost g n c0 w) := by
  have HR := hide hr
  clear hr
  go_enter Try.func23, Try.ntmps23
  go_wp2
  go_loopw [2] (fun i wr => ∃ k : Nat, 1 ≤ k ∧ (k ≤ n ∨ k = 1) ∧ i = .int .i64 k ∧ SortOut g n c0 w k wr) (fun i _ => n - (intOf i).toNat)
  case atStart => exact ⟨1, Nat.le_refl _, .inr rfl, rfl, c0, HR.out, fun p q h1 h2 => by omega, SameMem.refl _ _, World.grownBy.refl _ _⟩
  case round =>
    rename World => wo
    obtain ⟨k, hk1, hk2, rfl, c, h1, h2, h3, h4⟩ := hrel
    by_cases hlt : k < n
    · obtain ⟨x1, x2, x3, x4⟩ := h1.cells hlt
      have HI := hide (sortIn_start h1 h2 h3 h4)
      generalize hX : c k = X at x1 x2 HI
      clear hX h1 h2 h3 h4 x3 x4 hk2
      go_wp2
      go_loopw [4] (fun v wr => ∃ j : Nat, j ≤ k ∧ v = .int .i64 j ∧ SortIn g n c0 w k wo.heap.size X j wr) (fun v _ => (intOf v).toNat)
      case atStart => exact ⟨k, Nat.le_refl _, rfl, HI.out⟩
      case round =>
        obtain ⟨j, hjk, rfl, c, c1, h1, h2, h3, h4, h5, h6, h7⟩ := hrel
        clear x1 x2
        by_cases hj : 0 < j
        · have hjI : (0 : Int) < (j : Int) := by omega
          have hjn : (j : Int) - 1 < (n : Int) := by omega
          have hjz : (0 : Int) ≤ (j : Int) - 1 := by omega
          have hwr : IntKind.i64.wrap ((j : Int) - 1) = (j : Int) - 1 := by rw [IntKind.wrap_i64]; omega
          have htn : ((j : Int) - 1).toNat = j - 1 := by omega
          have a1 : (1 : Int) ≤ (j : Int) := by omega
          have a2 : ¬ (j : Int) < 1 := by omega
          have a3 : j ≠ 0 := by omega
          have a5 : 1 ≤ j := by omega
          have a6 : (j : Int) < (n : Int) + 1 := by omega
          obtain ⟨y1, y2, _, _⟩ := h1.cells (i := j - 1) (by omega)
          obtain ⟨y3, y4, z3, z4⟩ := h1.cells (i := j) (by omega)
          have hgl := h1.lt
          have hbl := World.block_lt_of_cell? wr _ h5
          have hbl : wo.heap.size < wr.heap.size := hbl
          generalize hY : c (j - 1) = Y at y1 y2
          generalize c j = Z at y3 y4
          cases hless : kvLess X Y with
          | true =>
            have HD := hide (fun (w1 : World) (hb : Below wr.heap.size wr w1) => hY ▸ sortIn_step' hj h1 h2 h3 h4 h5 h6 h7 hlt (hY.symm ▸ hless) hb)
            have hless2 : kvLess (X.1, X.2) (Y.1, Y.2) = true := hless
            clear h1 h2 h3 h4 hY
            go_wp2
            go_region_held3 (fun w' => w'.cell? ⟨wo.heap.size, 0, none⟩ = some (.int .i64 X.1) ∧ w'.cell? ⟨wo.heap.size, 1, none⟩ = some (.int .i64 X.2) ∧ w'.cell? ⟨g, (j - 1) * 2, none⟩ = some (.int .i64 Y.1) ∧ w'.cell? ⟨g, (j - 1) * 2 + 1, none⟩ = some (.int .i64 Y.2)) (go_keep)
              (first | (go_at_call 52; refine (kvLess_any X.1 X.2 Y.1 Y.2 _).mono ?_; rintro e w1 ⟨rfl, rfl⟩))
            go_wp2
            go_roundw
            case rel => exact ⟨j - 1, by omega, by go_num, (HD.out wr (Below.refl _ _)).grow (below_two _ _ _)⟩
            case measure => simp [intOf]; omega
          | false =>
            have HD := hide (fun (w1 : World) (hb : Below wr.heap.size wr w1) => sortIn_done h1 h2 h3 h4 (.inr ⟨j - 1, by omega, hY.symm ▸ hless⟩) hb)
            have hless2 : kvLess (X.1, X.2) (Y.1, Y.2) = false := hless
            clear h1 h2 h3 h4 hY
            go_wp2
            go_region_held3 (fun w' => w'.cell? ⟨wo.heap.size, 0, none⟩ = some (.int .i64 X.1) ∧ w'.cell? ⟨wo.heap.size, 1, none⟩ = some (.int .i64 X.2) ∧ w'.cell? ⟨g, (j - 1) * 2, none⟩ = some (.int .i64 Y.1) ∧ w'.cell? ⟨g, (j - 1) * 2 + 1, none⟩ = some (.int .i64 Y.2)) (go_keep)
              (first | (go_at_call 52; refine (kvLess_any X.1 X.2 Y.1 Y.2 _).mono ?_; rintro e w1 ⟨rfl, rfl⟩))
            go_wp2
            go_roundw
            case rel => exact ⟨k + 1, by omega, .inl (by omega), by go_num, (HD.out wr (Below.refl _ _)).grow (below_two _ _ _)⟩
            case measure => simp [intOf]; omega
        · have hd : decide ((0 : Int) < (j : Int)) = false := by simp; omega
          have HD := hide (fun (w1 : World) (hb : Below wr.heap.size wr w1) => sortIn_done h1 h2 h3 h4 (.inl (by omega)) hb)
          obtain ⟨y3, y4, z3, z4⟩ := h1.cells (i := j) (by omega)
          clear h1 h2 h3 h4
          go_wp2
          go_quiet (fail)
          go_wp2
          go_roundw
          case rel => exact ⟨k + 1, by omega, .inl (by omega), by go_num, HD.out _ (below_drewN (Below.refl _ _) _)⟩
          case measure => simp [intOf]; omega
    · go_wp2
      go_end0
      refine ⟨rfl, c, h1, ?_, h3, h4⟩
      intro p q a1 a2
      exact h2 p q a1 (by omega)
end Go.Proofs.Qxb6602646a
