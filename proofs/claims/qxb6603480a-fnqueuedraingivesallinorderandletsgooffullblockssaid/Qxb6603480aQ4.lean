/-
  The queue in memory; (*queue).pop (15), ZZQueuePop (11).
-/
import Derived.Test.Qxb6603480aQ3
namespace Go.Proofs.Qxb6603480a
open Go.RowKit

/-- Block b holds the pairs l. -/
def BlkAt (w : World) (b : Nat) (l : List (Int × Int)) : Prop := b < w.heap.size ∧ ∀ i (h : i < l.length), w.cell? ⟨b, i * 2, none⟩ = some (.int .u32 l[i].1) ∧ w.cell? ⟨b, i * 2 + 1, none⟩ = some (.int .u32 l[i].2)
theorem BlkAt.kept {w w' : World} {b : Nat} {l : List (Int × Int)} (h : BlkAt w b l) (hs : w.heap.size ≤ w'.heap.size) (e : w'.heap[b]? = w.heap[b]?) : BlkAt w' b l :=
  ⟨Nat.lt_of_lt_of_le h.1 hs, fun i hi => ⟨(World.cell?_of_block (w := w) (a := ⟨b, i * 2, none⟩) e).trans (h.2 i hi).1, (World.cell?_of_block (w := w) (a := ⟨b, i * 2 + 1, none⟩) e).trans (h.2 i hi).2⟩⟩
def qc (bv hv sv : Value) : Nat → Value
  | 0 => bv
  | 1 => hv
  | _ => sv
/-- The row of blocks: from place o of block g on. sp: the spare block's length. -/
structure QAt (B0 : Nat) (w0 w : World) (qb : Nat) (B : List (List (Int × Int))) (hd : Int) (sp : Nat) (a : Option Addr) (cap : Nat) (sa : Option Addr) (sc : Nat) : Prop where
  row : w.rowIs qb 40 3 (qc (.slice a B.length cap) (.int .i64 hd) (.slice sa sp sc))
  cap : B.length ≤ cap
  blks : 0 < B.length → ∃ g o N f, a = some ⟨g, o, none⟩ ∧ w.rowIs g 38 N f ∧ o + B.length ≤ N ∧ B0 ≤ g ∧ ∀ i (h : i < B.length), ∃ b c, f (o + i) = .slice (some ⟨b, 0, none⟩) B[i].length c ∧ BlkAt w b B[i] ∧ b ≠ qb ∧ b ≠ g
  base : B0 ≤ qb
  bel : Below B0 w0 w
theorem QAt.grow {B0 : Nat} {w0 w w' : World} {qb : Nat} {B : List (List (Int × Int))} {hd : Int} {sp : Nat} {a : Option Addr} {cap : Nat} {sa : Option Addr} {sc : Nat} (h : QAt B0 w0 w qb B hd sp a cap sa sc) (k : Below w.heap.size w w') : QAt B0 w0 w' qb B hd sp a cap sa sc := by
  refine ⟨h.row.of_block (k.block _ h.row.lt), h.cap, fun hp => ?_, h.base, h.bel.trans (k.mono (Nat.le_trans h.base (Nat.le_of_lt h.row.lt)))⟩
  obtain ⟨g, o, N, f, e1, e2, e3, e4, e5⟩ := h.blks hp
  refine ⟨g, o, N, f, e1, e2.of_block (k.block _ e2.lt), e3, e4, fun i hi => ?_⟩
  obtain ⟨b, c, q1, q2, q3⟩ := e5 i hi
  exact ⟨b, c, q1, q2.kept k.size (k.block _ q2.1), q3⟩
theorem rows_ne {w : World} {b b' : Nat} {t t' : TypeId} {n n' : Nat} {f f' : Nat → Value} (h : w.rowIs b t n f) (k : w.rowIs b' t' n' f') (ht : t ≠ t') : b ≠ b' := by
  rintro rfl
  obtain ⟨c, h1, _⟩ := h
  obtain ⟨c', h2, _⟩ := k
  rw [h1] at h2
  cases h2
  exact ht rfl
/-- The head moves on. -/
theorem QAt.step {B0 : Nat} {w0 w : World} {qb : Nat} {B : List (List (Int × Int))} {hd : Int} {sp : Nat} {a : Option Addr} {cap : Nat} {sa : Option Addr} {sc : Nat} (h : QAt B0 w0 w qb B hd sp a cap sa sc) (x : Int) : QAt B0 w0 (w.setCell ⟨qb, 1, none⟩ (.int .i64 x)) qb B x sp a cap sa sc := by
  have same : ∀ b, b ≠ qb → (w.setCell ⟨qb, 1, none⟩ (.int .i64 x)).heap[b]? = w.heap[b]? := fun b hb => Below.heap_setCell _ _ _ _ hb
  refine ⟨(h.row.set 1 _).congr (fun i hi => ?_), h.cap, fun hp => ?_, h.base, h.bel.setCell (p := ⟨qb, 1, none⟩) h.base _⟩
  · match i, hi with
    | 0, _ => rfl
    | 1, _ => rfl
    | 2, _ => rfl
  · obtain ⟨g, o, N, f, e1, e2, e3, e4, e5⟩ := h.blks hp
    have hne := rows_ne e2 h.row (by decide)
    refine ⟨g, o, N, f, e1, e2.of_block (same g hne), e3, e4, fun i hi => ?_⟩
    obtain ⟨b, c, q1, q2, q3⟩ := e5 i hi
    exact ⟨b, c, q1, q2.kept (by simp [World.setCell]) (same b q3.1), q3⟩
/-- The first block is let go of. -/
theorem QAt.drop {B0 : Nat} {w0 w : World} {qb : Nat} {b0 : List (Int × Int)} {R : List (List (Int × Int))} {hd : Int} {sp : Nat} {cap : Nat} {sa : Option Addr} {sc g o : Nat} (h : QAt B0 w0 w qb (b0 :: R) hd sp (some ⟨g, o, none⟩) cap sa sc) (ba : Option Addr) (bc : Nat) (na : Addr) (hna : 0 < R.length → na = ⟨g, o + 1, none⟩) :
    QAt B0 w0 ((((w.setCell ⟨qb, 2, none⟩ (.slice ba b0.length bc)).setCell ⟨g, o, none⟩ (.slice none 0 0)).setCell ⟨qb, 0, none⟩ (.slice (some na) R.length (cap - 1))).setCell ⟨qb, 1, none⟩ (.int .i64 0)) qb R 0 b0.length (some na) (cap - 1) ba bc := by
  obtain ⟨g', o', N, f, e1, e2, e3, e4, e5⟩ := h.blks (by simp)
  obtain ⟨rfl, rfl⟩ : g = g' ∧ o = o' := by cases e1; exact ⟨rfl, rfl⟩
  have hne : g ≠ qb := rows_ne e2 h.row (by decide)
  have hcap := h.cap
  simp only [List.length_cons] at hcap e3
  have s2 : ∀ b, b ≠ qb → b ≠ g → ((((w.setCell ⟨qb, 2, none⟩ (.slice ba b0.length bc)).setCell ⟨g, o, none⟩ (.slice none 0 0)).setCell ⟨qb, 0, none⟩ (.slice (some na) R.length (cap - 1))).setCell ⟨qb, 1, none⟩ (.int .i64 0)).heap[b]? = w.heap[b]? := fun b hb hg => by
    rw [Below.heap_setCell _ _ _ _ hb, Below.heap_setCell _ _ _ _ hb, Below.heap_setCell _ _ _ _ hg, Below.heap_setCell _ _ _ _ hb]
  have hsz : ((((w.setCell ⟨qb, 2, none⟩ (.slice ba b0.length bc)).setCell ⟨g, o, none⟩ (.slice none 0 0)).setCell ⟨qb, 0, none⟩ (.slice (some na) R.length (cap - 1))).setCell ⟨qb, 1, none⟩ (.int .i64 0)).heap.size = w.heap.size := by simp [World.setCell]
  have r1 := h.row.set 2 (.slice ba b0.length bc)
  have r2 := World.rowIs.of_block r1 (Below.heap_setCell (w.setCell ⟨qb, 2, none⟩ (.slice ba b0.length bc)) ⟨g, o, none⟩ (.slice none 0 0) qb (fun e => hne e.symm))
  have r3 := (r2.set 0 (.slice (some na) R.length (cap - 1))).set 1 (.int .i64 0)
  refine ⟨r3.congr (fun i hi => ?_), by omega, fun hp => ?_, h.base, ((((h.bel.setCell (p := ⟨qb, 2, none⟩) h.base _).setCell (p := ⟨g, o, none⟩) e4 _).setCell (p := ⟨qb, 0, none⟩) h.base _).setCell (p := ⟨qb, 1, none⟩) h.base _)⟩
  · match i, hi with
    | 0, _ => rfl
    | 1, _ => rfl
    | 2, _ => rfl
  · have g1 := World.rowIs.of_block e2 (Below.heap_setCell w ⟨qb, 2, none⟩ (.slice ba b0.length bc) g hne)
    have g2 := g1.set o (.slice none 0 0)
    have g3 := World.rowIs.of_block g2 (Below.heap_setCell _ ⟨qb, 0, none⟩ (.slice (some na) R.length (cap - 1)) g hne)
    have g4 := World.rowIs.of_block g3 (Below.heap_setCell _ ⟨qb, 1, none⟩ (.int .i64 0) g hne)
    refine ⟨g, o + 1, N, _, by rw [hna hp], g4, by omega, e4, fun i hi => ?_⟩
    obtain ⟨b, c, q1, q2, q3⟩ := e5 (i + 1) (by simpa using hi)
    simp only [List.getElem_cons_succ] at q1 q2
    refine ⟨b, c, ?_, q2.kept (Nat.le_of_eq hsz.symm) (s2 b q3.1 q3.2), q3⟩
    rw [if_neg (by omega), ← q1]
    congr 1
    omega

/-! ### pop -/
def QEx (B0 : Nat) (w0 w : World) (qb : Nat) (B : List (List (Int × Int))) (hd : Int) (sp : Nat) : Prop := ∃ a cap sa sc, QAt B0 w0 w qb B hd sp a cap sa sc
def popNone (B0 : Nat) (w0 : World) (qb : Nat) (B : List (List (Int × Int))) (hd : Int) (sp : Nat) (e : Ending) (w' : World) : Prop := e = .returned (.tuple #[.agg #[.int .u32 0, .int .u32 0], .bool false]) ∧ QEx B0 w0 w' qb B hd sp
def nextB (B : List (List (Int × Int))) (h : Nat) : List (List (Int × Int)) := if h + 1 = 4096 then B.tail else B
def nextH (h : Nat) : Nat := if h + 1 = 4096 then 0 else h + 1
def nextS (h sp : Nat) : Nat := if h + 1 = 4096 then 4096 else sp
def popSome (B0 : Nat) (w0 : World) (qb : Nat) (B : List (List (Int × Int))) (h sp : Nat) (x : Int × Int) (e : Ending) (w' : World) : Prop := e = .returned (.tuple #[.agg #[.int .u32 x.1, .int .u32 x.2], .bool true]) ∧ QEx B0 w0 w' qb (nextB B h) (nextH h) (nextS h sp)

theorem res_cells {W : World} {b : Nat} {u v : Value} (hc0 : W.cell? ⟨b, 0, none⟩ = some u) (hc1 : W.cell? ⟨b, 1, none⟩ = some v) (x y : Value) :
    ((W.setCell ⟨b, 0, none⟩ x).setCell ⟨b, 1, none⟩ y).cell? ⟨b, 0, none⟩ = some x ∧ ((W.setCell ⟨b, 0, none⟩ x).setCell ⟨b, 1, none⟩ y).cell? ⟨b, 1, none⟩ = some y := by
  simp [go_sem, hc0, hc1]
set_option maxHeartbeats 1000000 in
set_option maxRecDepth 20000 in
theorem pop15_none {B0 : Nat} {w0 w : World} {qb : Nat} {B : List (List (Int × Int))} {hd : Int} {sp : Nat} (h : QEx B0 w0 w qb B hd sp) (he : B.length = 0 ∨ ∃ h0 : 0 < B.length, hd = B[0].length) :
    Calls Try.prog 15 #[.pointer (some ⟨qb, 0, none⟩)] w (popNone B0 w0 qb B hd sp) := by
  obtain ⟨a, cap, sa, sc, hQ⟩ := h
  have HQ := hide hQ
  have k0 : w.cell? ⟨qb, 0, none⟩ = some (.slice a B.length cap) := hQ.row.cell (show 0 < 3 by omega)
  have k1 : w.cell? ⟨qb, 1, none⟩ = some (.int .i64 hd) := hQ.row.cell (show 1 < 3 by omega)
  have hql := hQ.row.lt
  have HEnd : Hid (∀ nq, QEx B0 w0 ((((w.alloc (.cells #[.int .u32 0, .int .u32 0] 42)).drewN nq).setCell ⟨w.heap.size, 0, none⟩ (.int .u32 0)).setCell ⟨w.heap.size, 1, none⟩ (.int .u32 0)) qb B hd sp) := fun nq =>
    ⟨a, cap, sa, sc, hQ.grow (((below_drewN ((Below.refl _ _).alloc (Nat.le_refl _) _) nq).setCell (p := ⟨w.heap.size, 0, none⟩) (by simp) _).setCell (p := ⟨w.heap.size, 1, none⟩) (by simp) _)⟩
  have HC : Hid (∀ nq, ((((w.alloc (.cells #[.int .u32 0, .int .u32 0] 42)).drewN nq).setCell ⟨w.heap.size, 0, none⟩ (.int .u32 0)).setCell ⟨w.heap.size, 1, none⟩ (.int .u32 0)).cell? ⟨w.heap.size, 0, none⟩ = some (.int .u32 0) ∧ ((((w.alloc (.cells #[.int .u32 0, .int .u32 0] 42)).drewN nq).setCell ⟨w.heap.size, 0, none⟩ (.int .u32 0)).setCell ⟨w.heap.size, 1, none⟩ (.int .u32 0)).cell? ⟨w.heap.size, 1, none⟩ = some (.int .u32 0)) := fun nq =>
    res_cells (u := .int .u32 0) (v := .int .u32 0) (cell_box w #[.int .u32 0, .int .u32 0] 42 0 _ rfl) (cell_box w #[.int .u32 0, .int .u32 0] 42 1 _ rfl) _ _
  rcases he with hz | ⟨h0, hhd⟩
  · rw [hz] at k0
    have k0' := cal k0 (.cells #[.int .u32 0, .int .u32 0] 42)
    have k1' := cal k1 (.cells #[.int .u32 0, .int .u32 0] 42)
    clear hQ
    go_enter Try.func15, Try.ntmps15
    go_wp2
    go_quiet (fail)
    go_wp2
    obtain ⟨c0, c1⟩ := HC.out nq
    have hE := HEnd.out nq
    generalize (((w.alloc (.cells #[.int .u32 0, .int .u32 0] 42)).drewN nq).setCell ⟨w.heap.size, 0, none⟩ (.int .u32 0)).setCell ⟨w.heap.size, 1, none⟩ (.int .u32 0) = wf at *
    refine bodyPost_ret (v := .tuple #[.agg #[.int .u32 0, .int .u32 0], .bool false]) (by simp [results, Try.results15, go_sem, c0, c1]) rfl ⟨rfl, hE⟩
  · obtain ⟨g, o, N, f, rfl, e2, e3, e4, e5⟩ := hQ.blks h0
    obtain ⟨b, c, q1, q2, q3⟩ := e5 0 h0
    have k2 := e2.cell (show o < N by omega)
    rw [show f o = f (o + 0) from rfl, q1, ] at k2
    have hgl := e2.lt
    rw [hhd] at k1
    obtain ⟨n, hn⟩ : ∃ n, n = B.length := ⟨_, rfl⟩
    rw [← hn] at k0
    have hnb : ((n : Int) == 0) = false := by rw [beq_eq_false_iff_ne]; omega
    have hnp : (0 : Int) < (n : Int) := by omega
    generalize B[0].length = m at k1 k2
    have k0' := cal k0 (.cells #[.int .u32 0, .int .u32 0] 42)
    have k1' := cal k1 (.cells #[.int .u32 0, .int .u32 0] 42)
    have k2' := cal k2 (.cells #[.int .u32 0, .int .u32 0] 42)
    clear hQ e2 e3 e5 q1 q2 q3 hn hhd h0
    go_enter Try.func15, Try.ntmps15
    go_wp2
    go_quiet (fail)
    go_wp2
    obtain ⟨c0, c1⟩ := HC.out nq
    have hE := HEnd.out nq
    generalize (((w.alloc (.cells #[.int .u32 0, .int .u32 0] 42)).drewN nq).setCell ⟨w.heap.size, 0, none⟩ (.int .u32 0)).setCell ⟨w.heap.size, 1, none⟩ (.int .u32 0) = wf at *
    refine bodyPost_ret (v := .tuple #[.agg #[.int .u32 0, .int .u32 0], .bool false]) (by simp [results, Try.results15, go_sem, c0, c1]) rfl ⟨rfl, hE⟩

theorem heap_set_both {w w' : World} {p : Addr} (v : Value) {b : Nat} (h : w'.heap[b]? = w.heap[b]?) : (w'.setCell p v).heap[b]? = (w.setCell p v).heap[b]? := by
  by_cases e : b = p.block
  · subst e
    simp only [World.setCell, Array.getElem?_modify, if_true, h]
  · rw [Below.heap_setCell _ _ _ _ e, Below.heap_setCell _ _ _ _ e, h]
theorem below_both {K : Nat} {w w' : World} (h : Below K w w') (p : Addr) (v : Value) : Below K (w.setCell p v) (w'.setCell p v) :=
  ⟨h.os, h.tape, h.output, by have := h.size; simpa [World.setCell] using this, fun b hb => heap_set_both v (h.block b hb)⟩
theorem drew_cell (w : World) (a : Addr) : w.drew.cell? a = w.cell? a := rfl
theorem size_set (w : World) (p : Addr) (v : Value) : (w.setCell p v).heap.size = w.heap.size := by simp [World.setCell]
set_option maxHeartbeats 1000000 in
set_option maxRecDepth 20000 in
theorem pop15_some {B0 : Nat} {w0 w : World} {qb : Nat} {b0 : List (Int × Int)} {R : List (List (Int × Int))} {h sp : Nat} (hq : QEx B0 w0 w qb (b0 :: R) h sp) (hh : h < b0.length) (h4 : h < 4096) (hb : b0.length ≤ 4096) (hl : R.length ≤ 4096) :
    Calls Try.prog 15 #[.pointer (some ⟨qb, 0, none⟩)] w (popSome B0 w0 qb (b0 :: R) h sp b0[h]) := by
  obtain ⟨a, cap, sa, sc, hQ⟩ := hq
  obtain ⟨g, o, N, f, rfl, e2, e3, e4, e5⟩ := hQ.blks (by simp)
  obtain ⟨b, c, q1, q2, q3⟩ := e5 0 (by simp)
  simp only [List.getElem_cons_zero, Nat.add_zero] at q1 q2
  have k0 : w.cell? ⟨qb, 0, none⟩ = some (.slice (some ⟨g, o, none⟩) (b0 :: R).length cap) := hQ.row.cell (show 0 < 3 by omega)
  have k1 : w.cell? ⟨qb, 1, none⟩ = some (.int .i64 h) := hQ.row.cell (show 1 < 3 by omega)
  have k2 : w.cell? ⟨qb, 2, none⟩ = some (.slice sa sp sc) := hQ.row.cell (show 2 < 3 by omega)
  have z0 := hQ.row.frozen 0
  have z1 := hQ.row.frozen 1
  have z2 := hQ.row.frozen 2
  have k3 := e2.cell (show o < N by simp at e3; omega)
  have z3 := e2.frozen o
  rw [q1] at k3
  obtain ⟨y1, y2⟩ := q2.2 h hh
  have hql := hQ.row.lt
  have hgl := e2.lt
  have hbl := q2.1
  have hne : g ≠ qb := rows_ne e2 hQ.row (by decide)
  have hcap : R.length + 1 ≤ cap := by have := hQ.cap; simpa using this
  have HQ := hide hQ
  simp only [List.length_cons] at k0
  generalize b0[h] = x at y1 y2
  obtain ⟨m, hm⟩ : ∃ m, m = b0.length := ⟨_, rfl⟩
  rw [← hm] at k3 hh hb
  have HM := hide hm
  obtain ⟨n, hn⟩ : ∃ n, n = R.length + 1 := ⟨_, rfl⟩
  rw [← hn] at k0 hcap
  have HN := hide hn
  have hnb : ((n : Int) == 0) = false := by rw [beq_eq_false_iff_ne]; omega
  have hnp : (0 : Int) < (n : Int) := by omega
  have hn1 : 1 ≤ n := by omega
  have hhm : ((h : Int) == (m : Int)) = false := by rw [beq_eq_false_iff_ne]; omega
  have ih : (h : Int) < (m : Int) := by omega
  have ih0 : (0 : Int) ≤ (h : Int) := by omega
  have k0' := cal k0 (.cells #[.int .u32 0, .int .u32 0] 42)
  have k1' := cal k1 (.cells #[.int .u32 0, .int .u32 0] 42)
  have k2' := cal k2 (.cells #[.int .u32 0, .int .u32 0] 42)
  have k3' := cal k3 (.cells #[.int .u32 0, .int .u32 0] 42)
  have y1' := cal y1 (.cells #[.int .u32 0, .int .u32 0] 42)
  have y2' := cal y2 (.cells #[.int .u32 0, .int .u32 0] 42)
  have hqb1 : qb ≠ w.heap.size := by omega
  have hg1 : g ≠ w.heap.size := by omega
  have hb1 : b ≠ w.heap.size := by omega
  clear hQ e2 e3 e5 q1 q2 hm hn
  go_enter Try.func15, Try.ntmps15
  go_wp2
  go_quiet (fail)
  go_wp2
  have hBA : Below w.heap.size w ((w.alloc (.cells #[.int .u32 0, .int .u32 0] 42)).drewN nq) := below_drewN ((Below.refl _ _).alloc (Nat.le_refl _) _) nq
  have r0 : ((w.alloc (.cells #[.int .u32 0, .int .u32 0] 42)).drewN nq).rowIs w.heap.size 42 2 (fun i => #[Value.int .u32 0, .int .u32 0][i]!) := by
    refine ⟨_, (MapKept.heap_alloc w (.cells #[.int .u32 0, .int .u32 0] 42)).1, rfl, fun i hi => ?_⟩
    match i, hi with
    | 0, _ => rfl
    | 1, _ => rfl
  clear k0' k1' k2' k3' y1' y2'
  obtain ⟨rb, hrb⟩ : ∃ rb, rb = w.heap.size := ⟨_, rfl⟩
  obtain ⟨wA, hwA⟩ : ∃ wA, wA = (w.alloc (.cells #[.int .u32 0, .int .u32 0] 42)).drewN nq := ⟨_, rfl⟩
  rw [← hwA] at hBA r0
  rw [← hwA]
  rw [← hrb] at hBA r0 hql hgl hbl hqb1 hg1 hb1
  rw [← hrb]
  have K0 := (hBA.cell (p := ⟨qb, 0, none⟩) hql).trans k0
  have K1 := (hBA.cell (p := ⟨qb, 1, none⟩) hql).trans k1
  have K2 := (hBA.cell (p := ⟨qb, 2, none⟩) hql).trans k2
  have K3 := (hBA.cell (p := ⟨g, o, none⟩) hgl).trans k3
  have Y1 := (hBA.cell (p := ⟨b, h * 2, none⟩) hbl).trans y1
  have Y2 := (hBA.cell (p := ⟨b, h * 2 + 1, none⟩) hbl).trans y2
  have Z0 := (hBA.frozen (p := ⟨qb, 0, none⟩) hql).trans z0
  have Z1 := (hBA.frozen (p := ⟨qb, 1, none⟩) hql).trans z1
  have Z2 := (hBA.frozen (p := ⟨qb, 2, none⟩) hql).trans z2
  have Z3 := (hBA.frozen (p := ⟨g, o, none⟩) hgl).trans z3
  have R0 := r0.cell (show 0 < 2 by omega)
  have R1 := r0.cell (show 1 < 2 by omega)
  have F0 := r0.frozen 0
  have F1 := r0.frozen 1
  have hrl := r0.lt
  simp only [List.getElem!_toArray, List.getElem!_cons_zero, List.getElem!_cons_succ] at R0 R1
  have HBA := hide hBA
  have HRB := hide hrb
  clear k0 k1 k2 k3 y1 y2 z0 z1 z2 z3 r0 hBA hwA hrb
  have P0 := cal K0 (.cells #[.int .u32 0, .int .u32 0] 42)
  have P1 := cal K1 (.cells #[.int .u32 0, .int .u32 0] 42)
  have P3 := cal K3 (.cells #[.int .u32 0, .int .u32 0] 42)
  have Y1' := cal Y1 (.cells #[.int .u32 0, .int .u32 0] 42)
  have Y2' := cal Y2 (.cells #[.int .u32 0, .int .u32 0] 42)
  have nA : qb ≠ wA.heap.size := by omega
  have nB : g ≠ wA.heap.size := by omega
  have nC : b ≠ wA.heap.size := by omega
  have nD : rb ≠ wA.heap.size := by omega
  have nE : rb ≠ qb := fun e => hqb1 e.symm
  have nF : rb ≠ g := fun e => hg1 e.symm
  go_big_region
  have hBB : Below wA.heap.size wA (wA.alloc (.cells #[.int .u32 x.1, .int .u32 x.2] 42)).drew := ((Below.refl _ _).alloc (Nat.le_refl _) _).drew
  have V0 : (wA.alloc (.cells #[.int .u32 x.1, .int .u32 x.2] 42)).drew.cell? ⟨wA.heap.size, 0, none⟩ = some (.int .u32 x.1) := cell_box wA #[.int .u32 x.1, .int .u32 x.2] 42 0 _ rfl
  have V1 : (wA.alloc (.cells #[.int .u32 x.1, .int .u32 x.2] 42)).drew.cell? ⟨wA.heap.size, 1, none⟩ = some (.int .u32 x.2) := cell_box wA #[.int .u32 x.1, .int .u32 x.2] 42 1 _ rfl
  obtain ⟨wB, hwB⟩ : ∃ wB, wB = (wA.alloc (.cells #[.int .u32 x.1, .int .u32 x.2] 42)).drew := ⟨_, rfl⟩
  rw [← hwB] at hBB V0 V1
  rw [← hwB]
  have sA := HBA.out.size
  have L0 : qb < wA.heap.size := by omega
  have L1 : g < wA.heap.size := by omega
  have K0 := (hBB.cell (p := ⟨qb, 0, none⟩) L0).trans K0
  have K1 := (hBB.cell (p := ⟨qb, 1, none⟩) L0).trans K1
  have K2 := (hBB.cell (p := ⟨qb, 2, none⟩) L0).trans K2
  have K3 := (hBB.cell (p := ⟨g, o, none⟩) L1).trans K3
  have Z0 := (hBB.frozen (p := ⟨qb, 0, none⟩) L0).trans Z0
  have Z1 := (hBB.frozen (p := ⟨qb, 1, none⟩) L0).trans Z1
  have Z2 := (hBB.frozen (p := ⟨qb, 2, none⟩) L0).trans Z2
  have Z3 := (hBB.frozen (p := ⟨g, o, none⟩) L1).trans Z3
  have R0 := (hBB.cell (p := ⟨rb, 0, none⟩) hrl).trans R0
  have R1 := (hBB.cell (p := ⟨rb, 1, none⟩) hrl).trans R1
  have F0 := (hBB.frozen (p := ⟨rb, 0, none⟩) hrl).trans F0
  have F1 := (hBB.frozen (p := ⟨rb, 1, none⟩) hrl).trans F1
  have HBB := hide (HBA.out.trans (hBB.mono (Nat.le_of_lt hrl)))
  obtain ⟨vb, hvb⟩ : ∃ vb, vb = wA.heap.size := ⟨_, rfl⟩
  rw [← hvb] at V0 V1 nA nB nC nD
  rw [← hvb]
  have nG : vb ≠ rb := fun e => nD e.symm
  have nH : vb ≠ qb := fun e => nA e.symm
  have nI : vb ≠ g := fun e => nB e.symm
  clear hBB hwB hvb P0 P1 P3 Y1 Y2 Y1' Y2' HBA sA hrl L0 L1
  by_cases hlast : h + 1 = 4096
  · have hlb : ((h : Int) + 1 == 4096) = true := by rw [beq_iff_eq]; omega
    have hwr : IntKind.i64.wrap ((h : Int) + 1) = (h : Int) + 1 := by rw [IntKind.wrap_i64]; omega
    have HNx : Hid (nextB (b0 :: R) h = R ∧ nextH h = 0 ∧ nextS h sp = 4096) := ⟨if_pos hlast, if_pos hlast, if_pos hlast⟩
    have hm4 : m = 4096 := by omega
    have HM4 := hide hm4
    clear hlast hm4
    have HEnd : Hid (∀ na : Addr, (0 < R.length → na = ⟨g, o + 1, none⟩) → ∀ n1 c1 : Nat, n1 = R.length → c1 = cap - 1 → QEx B0 w0 (((((((wB.setCell ⟨qb, 1, none⟩ (.int .i64 ((h : Int) + 1))).setCell ⟨qb, 2, none⟩ (.slice (some ⟨b, 0, none⟩) m c)).setCell ⟨g, o, none⟩ (.slice none 0 0)).setCell ⟨qb, 0, none⟩ (.slice (some na) n1 c1)).setCell ⟨qb, 1, none⟩ (.int .i64 0)).setCell ⟨rb, 0, none⟩ (.int .u32 x.1)).setCell ⟨rb, 1, none⟩ (.int .u32 x.2)).drew qb (nextB (b0 :: R) h) (nextH h) (nextS h sp)) := by
      show ∀ na, _
      intro na hna n1 c1 hn1 hc1
      obtain ⟨e1, e2, e3⟩ := HNx.out
      have e4 : m = 4096 := HM4.out
      have e5 : ((0 : Nat) : Int) = 0 := rfl
      rw [e1, e2, e3, ← e4, e5]
      have q := (HQ.out.step ((h : Int) + 1)).drop (some ⟨b, 0, none⟩) c na hna
      have em := HM.out
      rw [← em, ← hn1, ← hc1] at q
      refine ⟨_, _, _, _, q.grow ?_⟩
      rw [size_set, size_set, size_set, size_set, size_set, ← HRB.out]
      exact (((below_both (below_both (below_both (below_both (below_both HBB.out _ _) _ _) _ _) _ _) _ _).setCell (p := ⟨rb, 0, none⟩) (by simp) _).setCell (p := ⟨rb, 1, none⟩) (by simp) _).drew
    have HC : Hid (∀ v0 v1 : Value, (((((((wB.setCell ⟨qb, 1, none⟩ (.int .i64 ((h : Int) + 1))).setCell ⟨qb, 2, none⟩ (.slice (some ⟨b, 0, none⟩) m c)).setCell ⟨g, o, none⟩ (.slice none 0 0)).setCell ⟨qb, 0, none⟩ v0).setCell ⟨qb, 1, none⟩ (.int .i64 0)).setCell ⟨rb, 0, none⟩ (.int .u32 x.1)).setCell ⟨rb, 1, none⟩ (.int .u32 x.2)).drew.cell? ⟨rb, 0, none⟩ = some (.int .u32 x.1) ∧ (((((((wB.setCell ⟨qb, 1, none⟩ (.int .i64 ((h : Int) + 1))).setCell ⟨qb, 2, none⟩ (.slice (some ⟨b, 0, none⟩) m c)).setCell ⟨g, o, none⟩ (.slice none 0 0)).setCell ⟨qb, 0, none⟩ v0).setCell ⟨qb, 1, none⟩ (.int .i64 0)).setCell ⟨rb, 0, none⟩ (.int .u32 x.1)).setCell ⟨rb, 1, none⟩ (.int .u32 x.2)).drew.cell? ⟨rb, 1, none⟩ = some (.int .u32 x.2)) := by
      show ∀ v0 v1, _
      intro v0 v1
      have e : ∀ i, (((((wB.setCell ⟨qb, 1, none⟩ (.int .i64 ((h : Int) + 1))).setCell ⟨qb, 2, none⟩ (.slice (some ⟨b, 0, none⟩) m c)).setCell ⟨g, o, none⟩ (.slice none 0 0)).setCell ⟨qb, 0, none⟩ v0).setCell ⟨qb, 1, none⟩ (.int .i64 0)).cell? ⟨rb, i, none⟩ = wB.cell? ⟨rb, i, none⟩ := fun i =>
        World.cell?_of_block (w := wB) (a := ⟨rb, i, none⟩) (by rw [Below.heap_setCell _ _ _ _ nE, Below.heap_setCell _ _ _ _ nE, Below.heap_setCell _ _ _ _ nF, Below.heap_setCell _ _ _ _ nE, Below.heap_setCell _ _ _ _ nE])
      have hres := res_cells ((e 0).trans R0) ((e 1).trans R1) (.int .u32 x.1) (.int .u32 x.2)
      exact ⟨(drew_cell _ _).trans hres.1, (drew_cell _ _).trans hres.2⟩
    by_cases hcap1 : cap = 1
    · subst hcap1
      obtain rfl : n = 1 := by omega
      have HRl : Hid (R.length = 0) := by show _ = _; have := HN.out; omega
      go_wp2
      go_big_region
      go_wp2
      have hE := HEnd.out ⟨g, o, none⟩ (fun q => by have := HRl.out; omega) 0 0 HRl.out.symm rfl
      obtain ⟨c0, c1⟩ := HC.out (.slice (some ⟨g, o, none⟩) 0 0) (.bool true)
      generalize World.drew (((((((wB.setCell ⟨qb, 1, none⟩ (.int .i64 ((h : Int) + 1))).setCell ⟨qb, 2, none⟩ (.slice (some ⟨b, 0, none⟩) m c)).setCell ⟨g, o, none⟩ (.slice none 0 0)).setCell ⟨qb, 0, none⟩ (.slice (some ⟨g, o, none⟩) 0 0)).setCell ⟨qb, 1, none⟩ (.int .i64 0)).setCell ⟨rb, 0, none⟩ (.int .u32 x.1)).setCell ⟨rb, 1, none⟩ (.int .u32 x.2)) = wf at *
      refine bodyPost_ret (v := .tuple #[.agg #[.int .u32 x.1, .int .u32 x.2], .bool true]) (by simp [results, Try.results15, go_sem, c0, c1]) rfl ⟨rfl, hE⟩
    · go_wp2
      go_big_region
      go_wp2
      have hE := HEnd.out ⟨g, o + 1, none⟩ (fun _ => rfl) (n - 1) (cap - 1) (by have := HN.out; omega) rfl
      obtain ⟨c0, c1⟩ := HC.out (.slice (some ⟨g, o + 1, none⟩) (n - 1) (cap - 1)) (.bool true)
      generalize World.drew (((((((wB.setCell ⟨qb, 1, none⟩ (.int .i64 ((h : Int) + 1))).setCell ⟨qb, 2, none⟩ (.slice (some ⟨b, 0, none⟩) m c)).setCell ⟨g, o, none⟩ (.slice none 0 0)).setCell ⟨qb, 0, none⟩ (.slice (some ⟨g, o + 1, none⟩) (n - 1) (cap - 1))).setCell ⟨qb, 1, none⟩ (.int .i64 0)).setCell ⟨rb, 0, none⟩ (.int .u32 x.1)).setCell ⟨rb, 1, none⟩ (.int .u32 x.2)) = wf at *
      refine bodyPost_ret (v := .tuple #[.agg #[.int .u32 x.1, .int .u32 x.2], .bool true]) (by simp [results, Try.results15, go_sem, c0, c1]) rfl ⟨rfl, hE⟩
  · have hlb : ((h : Int) + 1 == 4096) = false := by rw [beq_eq_false_iff_ne]; omega
    have hwr : IntKind.i64.wrap ((h : Int) + 1) = (h : Int) + 1 := by rw [IntKind.wrap_i64]; omega
    have HNx : Hid (nextB (b0 :: R) h = b0 :: R ∧ nextH h = h + 1 ∧ nextS h sp = sp) := ⟨if_neg hlast, if_neg hlast, if_neg hlast⟩
    clear hlast
    have HEnd : Hid (QEx B0 w0 (((wB.setCell ⟨qb, 1, none⟩ (.int .i64 ((h : Int) + 1))).setCell ⟨rb, 0, none⟩ (.int .u32 x.1)).setCell ⟨rb, 1, none⟩ (.int .u32 x.2)) qb (nextB (b0 :: R) h) (nextH h) (nextS h sp)) := by
      obtain ⟨e1, e2, e3⟩ := HNx.out
      show QEx _ _ _ _ _ _ _
      rw [e1, e2, e3]
      have q := HQ.out.step ((h : Int) + 1)
      refine ⟨_, _, _, _, q.grow ?_⟩
      rw [size_set, ← HRB.out]
      exact ((below_both HBB.out ⟨qb, 1, none⟩ (.int .i64 ((h : Int) + 1))).setCell (p := ⟨rb, 0, none⟩) (by simp) _).setCell (p := ⟨rb, 1, none⟩) (by simp) _
    have HC : Hid ((((wB.setCell ⟨qb, 1, none⟩ (.int .i64 ((h : Int) + 1))).setCell ⟨rb, 0, none⟩ (.int .u32 x.1)).setCell ⟨rb, 1, none⟩ (.int .u32 x.2)).cell? ⟨rb, 0, none⟩ = some (.int .u32 x.1) ∧ (((wB.setCell ⟨qb, 1, none⟩ (.int .i64 ((h : Int) + 1))).setCell ⟨rb, 0, none⟩ (.int .u32 x.1)).setCell ⟨rb, 1, none⟩ (.int .u32 x.2)).cell? ⟨rb, 1, none⟩ = some (.int .u32 x.2)) :=
      res_cells ((World.cell?_of_block (w := wB) (a := ⟨rb, 0, none⟩) (Below.heap_setCell _ _ _ _ nE)).trans R0) ((World.cell?_of_block (w := wB) (a := ⟨rb, 1, none⟩) (Below.heap_setCell _ _ _ _ nE)).trans R1) _ _
    go_wp2
    obtain ⟨c0, c1⟩ := HC.out
    have hE := HEnd.out
    generalize ((wB.setCell ⟨qb, 1, none⟩ (.int .i64 ((h : Int) + 1))).setCell ⟨rb, 0, none⟩ (.int .u32 x.1)).setCell ⟨rb, 1, none⟩ (.int .u32 x.2) = wf at *
    refine bodyPost_ret (v := .tuple #[.agg #[.int .u32 x.1, .int .u32 x.2], .bool true]) (by simp [results, Try.results15, go_sem, c0, c1]) rfl ⟨rfl, hE⟩
end Go.Proofs.Qxb6603480a
