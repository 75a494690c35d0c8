/-
  zzToHistory.
-/
import Derived.Test.Qxb6602646aClone
import Derived.Deep.CutRange
namespace Go.Proofs.Qxb6602646a
open Go.RowKit

theorem neq_nil22 (w : World) (a : Option Addr) (n c : Nat) : (binOp .neq 22 (.slice a n c) (.slice none 0 0)).run Try.prog w = .ok (.bool (!a.isNone)) w := run_neq_slice_nil_any w 22 38 a n c 0 0 Try.underlying22
theorem neq_nil23 (w : World) (a : Option Addr) (n c : Nat) : (binOp .neq 23 (.slice a n c) (.slice none 0 0)).run Try.prog w = .ok (.bool (!a.isNone)) w := run_neq_slice_nil_any w 23 44 a n c 0 0 Try.underlying23
theorem neq_nil36 (w : World) (a : Option Addr) (n c : Nat) : (binOp .neq 36 (.slice a n c) (.slice none 0 0)).run Try.prog w = .ok (.bool (!a.isNone)) w := run_neq_slice_nil_any w 36 40 a n c 0 0 Try.underlying36
attribute [local go_sem] neq_nil22 neq_nil23 neq_nil36

theorem info94 : (Try.prog.info? 94).map (fun i => (i.zero, i.size, i.bytes)) = some (some (.agg #[.int .i64 0, .int .i64 0, .slice none 0 0]), 3, 40) := by kernel_rfl
theorem info92 : (Try.prog.info? 92).map (fun i => (i.zero, i.size, i.bytes)) = some (some (.agg #[.int .u8 0, .int .i64 0, .int .i64 0]), 3, 24) := by kernel_rfl
theorem info95 : (Try.prog.info? 95).map (fun i => (i.zero, i.size, i.bytes)) = some (some (.agg #[.int .i64 0, .slice none 0 0]), 2, 32) := by kernel_rfl

/-- The history's own three cells. -/
def hcell (t s : Value) : Nat → Value
  | 0 => t
  | 1 => s
  | _ => .map none

def midHist (T : List PTxn) (w w1 : World) : Prop :=
  ∃ ta tc, Below w.heap.size w w1 ∧ w1.rowIs w.heap.size 88 3 (hcell (.slice ta T.length tc) (.slice none 0 0)) ∧ TxnsAt (fun b => w.heap.size < b ∧ b < w1.heap.size) w1 ta T

def histPost (T : List PTxn) (SS : List PSes) (w : World) (e : Ending) (w' : World) : Prop :=
  e = .returned (.pointer (some ⟨w.heap.size, 0, none⟩)) ∧ Below w.heap.size w w' ∧
  ∃ ta tc sa sc, w'.rowIs w.heap.size 88 3 (hcell (.slice ta T.length tc) (.slice sa SS.length sc)) ∧ TxnsAt (fun b => w.heap.size < b ∧ b < w'.heap.size) w' ta T ∧ SessAt (fun b => w.heap.size < b ∧ b < w'.heap.size) w' sa SS

/-- The outer loop's state: k transactions are laid. -/
def Outer (T : List PTxn) (w : World) (k : Nat) (wr : World) : Prop :=
  Below w.heap.size w wr ∧ wr.rowIs w.heap.size 88 3 (hcell (.slice (some ⟨w.heap.size + 1, 0, none⟩) T.length T.length) (.slice none 0 0)) ∧
  (∃ f, wr.rowIs (w.heap.size + 1) 94 (T.length * 3) f) ∧ ∀ i (h : i < T.length), i < k → TxnAt (fun b => w.heap.size + 1 < b ∧ b < wr.heap.size) wr (w.heap.size + 1) (i * 3) T[i]

theorem outer_start (T : List PTxn) (w : World) : Outer T w 0 ((w.alloc (.cells #[.slice (some ⟨w.heap.size + 1, 0, none⟩) T.length T.length, .slice none 0 0, .map none] 88)).alloc
    (.cells (madeCells #[.int .i64 0, .int .i64 0, .slice none 0 0] (T.length * 3)) 94)) := by
  refine ⟨((Below.refl _ _).alloc (Nat.le_refl _) _).alloc (by simp) _, ?_, ⟨fun i => #[.int .i64 0, .int .i64 0, .slice none 0 0][i % 3]!, ?_⟩, fun _ _ hi => absurd hi (Nat.not_lt_zero _)⟩
  · refine World.rowIs.alloc ?_ _
    refine ⟨_, (MapKept.heap_alloc w _).1, rfl, fun i hi => ?_⟩
    match i, hi with
    | 0, _ => rfl
    | 1, _ => rfl
    | 2, _ => rfl
  · have := rowIs_made (w.alloc (.cells #[.slice (some ⟨w.heap.size + 1, 0, none⟩) T.length T.length, .slice none 0 0, .map none] 88)) #[.int .i64 0, .int .i64 0, .slice none 0 0] (T.length * 3) 94
    simpa using this

/-- The inner loop's state: m operations are laid into the row ob. -/
def Inner (ops : List POp) (wr : World) (m : Nat) (wi : World) : Prop :=
  Below wr.heap.size wr wi ∧ (∃ f, wi.rowIs wr.heap.size 92 (ops.length * 3) f) ∧ ∀ j (h : j < ops.length), j < m → OpAt wi wr.heap.size (j * 3) ops[j]
theorem inner_start (ops : List POp) (wr : World) : Inner ops wr 0 (wr.alloc (.cells (madeCells #[.int .u8 0, .int .i64 0, .int .i64 0] (ops.length * 3)) 92)) :=
  ⟨(Below.refl _ _).alloc (Nat.le_refl _) _, ⟨_, rowIs_made wr _ _ 92⟩, fun _ _ hi => absurd hi (Nat.not_lt_zero _)⟩

/-- Three cells stored into a row. -/
theorem rowIs_set3 {w : World} {b : Nat} {t : TypeId} {n : Nat} {f : Nat → Value} (h : w.rowIs b t n f) (o : Nat) (x y z : Value) :
    (((w.setCell ⟨b, o, none⟩ x).setCell ⟨b, o + 1, none⟩ y).setCell ⟨b, o + 2, none⟩ z).rowIs b t n (fun j => if j = o + 2 then z else if j = o + 1 then y else if j = o then x else f j) :=
  ((h.set o x).set (o + 1) y).set (o + 2) z
theorem below_set3 {B : Nat} {w0 w : World} (h : Below B w0 w) {b : Nat} (hb : B ≤ b) (o : Nat) (x y z : Value) :
    Below B w0 (((w.setCell ⟨b, o, none⟩ x).setCell ⟨b, o + 1, none⟩ y).setCell ⟨b, o + 2, none⟩ z) :=
  ((h.setCell hb x).setCell hb y).setCell hb z
theorem same_set3 {w : World} {b : Nat} {o : Nat} {x y z : Value} {k : Nat} (hk : k ≠ b) :
    (((w.setCell ⟨b, o, none⟩ x).setCell ⟨b, o + 1, none⟩ y).setCell ⟨b, o + 2, none⟩ z).heap[k]? = w.heap[k]? := by
  rw [Below.heap_setCell _ _ _ _ hk, Below.heap_setCell _ _ _ _ hk, Below.heap_setCell _ _ _ _ hk]

theorem inner_step {ops : List POp} {wr wi : World} {m : Nat} (h : Inner ops wr m wi) (hm : m < ops.length) (o : Obj) :
    Inner ops wr (m + 1) ((((wi.setCell ⟨wr.heap.size, m * 3, none⟩ (.int .u8 ops[m].kind)).setCell ⟨wr.heap.size, m * 3 + 1, none⟩ (.int .i64 ops[m].key)).setCell ⟨wr.heap.size, m * 3 + 2, none⟩ (.int .i64 ops[m].val)).alloc o) := by
  obtain ⟨hb, ⟨f, hf⟩, hx⟩ := h
  have h1 := (rowIs_set3 hf (m * 3) (.int .u8 ops[m].kind) (.int .i64 ops[m].key) (.int .i64 ops[m].val)).alloc o
  refine ⟨(below_set3 hb (Nat.le_refl _) _ _ _ _).alloc (by have := hb.size; simpa [World.setCell] using this) o, ⟨_, h1⟩, fun j hj hjm => ?_⟩
  by_cases e : j = m
  · subst e
    refine ⟨?_, ?_, ?_⟩
    · rw [h1.cell (by omega)]; simp
    · rw [h1.cell (by omega)]; simp
    · rw [h1.cell (by omega)]; simp
  · obtain ⟨g1, g2, g3⟩ := hx j hj (by omega)
    rw [hf.cell (by omega)] at g1 g2 g3
    refine ⟨?_, ?_, ?_⟩
    · rw [h1.cell (by omega), ← g1]; rw [if_neg (by omega), if_neg (by omega), if_neg (by omega)]
    · rw [h1.cell (by omega), ← g2]; rw [if_neg (by omega), if_neg (by omega), if_neg (by omega)]
    · rw [h1.cell (by omega), ← g3]; rw [if_neg (by omega), if_neg (by omega), if_neg (by omega)]

/-- The row of one transaction is stored. -/
theorem outer_step {T : List PTxn} {w wr wi : World} {k : Nat} (h : Outer T w k wr) (hk : k < T.length) (hb : Below wr.heap.size wr wi) (oa : Option Addr) (oc : Nat)
    (ho : OpsAt (fun b => wr.heap.size ≤ b ∧ b < wi.heap.size) wi oa T[k].ops) (hsz : w.heap.size + 1 < wr.heap.size) :
    Outer T w (k + 1) (((wi.setCell ⟨w.heap.size + 1, k * 3, none⟩ (.int .i64 T[k].id)).setCell ⟨w.heap.size + 1, k * 3 + 1, none⟩ (.int .i64 T[k].ses)).setCell ⟨w.heap.size + 1, k * 3 + 2, none⟩ (.slice oa T[k].ops.length oc)) := by
  obtain ⟨h1, h2, ⟨f, h3⟩, h4⟩ := h
  have e1 : wi.heap[w.heap.size]? = wr.heap[w.heap.size]? := hb.block _ (by omega)
  have e2 : wi.heap[w.heap.size + 1]? = wr.heap[w.heap.size + 1]? := hb.block _ (by omega)
  have r2 := h2.of_block e1
  have r3 := h3.of_block e2
  have s3 := rowIs_set3 r3 (k * 3) (.int .i64 T[k].id) (.int .i64 T[k].ses) (.slice oa T[k].ops.length oc)
  have hsize : (((wi.setCell ⟨w.heap.size + 1, k * 3, none⟩ (.int .i64 T[k].id)).setCell ⟨w.heap.size + 1, k * 3 + 1, none⟩ (.int .i64 T[k].ses)).setCell ⟨w.heap.size + 1, k * 3 + 2, none⟩ (.slice oa T[k].ops.length oc)).heap.size = wi.heap.size := by
    simp [World.setCell]
  refine ⟨below_set3 (h1.trans (hb.mono (by omega))) (by omega) _ _ _ _, r2.of_block (same_set3 (by omega)), ⟨_, s3⟩, fun i hi hik => ?_⟩
  by_cases e : i = k
  · subst e
    refine ⟨?_, ?_, oa, oc, ?_, ?_⟩
    · rw [s3.cell (by omega)]; simp
    · rw [s3.cell (by omega)]; simp
    · rw [s3.cell (by omega)]; simp
    · refine (ho.kept (fun b hb => same_set3 ?_)).mono (fun b hb => ?_)
      · have := hb.1; omega
      · rw [hsize]; have := hb.1; exact ⟨by omega, hb.2⟩
  · obtain ⟨g1, g2, a', c', g3, g4⟩ := h4 i hi (by omega)
    rw [h3.cell (by omega)] at g1 g2 g3
    refine ⟨?_, ?_, a', c', ?_, ?_⟩
    · rw [s3.cell (by omega), ← g1]; rw [if_neg (by omega), if_neg (by omega), if_neg (by omega)]
    · rw [s3.cell (by omega), ← g2]; rw [if_neg (by omega), if_neg (by omega), if_neg (by omega)]
    · rw [s3.cell (by omega), ← g3]; rw [if_neg (by omega), if_neg (by omega), if_neg (by omega)]
    · refine (g4.kept (fun b hb' => ?_)).mono (fun b hb' => ?_)
      · rw [same_set3 (by have := hb'.1; omega)]
        exact hb.block b hb'.2
      · rw [hsize]; exact ⟨hb'.1, Nat.lt_of_lt_of_le hb'.2 hb.size⟩

theorem Outer.drew {T : List PTxn} {w wr : World} {k : Nat} (h : Outer T w k wr) : Outer T w k wr.drew := ⟨h.1.drew, h.2.1, h.2.2.1, h.2.2.2⟩
theorem outer_done {T : List PTxn} {w wr : World} {k : Nat} (h : Outer T w k wr) (hk : T.length ≤ k) : midHist T w wr := by
  obtain ⟨h1, h2, ⟨f, h3⟩, h4⟩ := h
  have hlt := h3.lt
  refine ⟨_, _, h1, h2, fun hpos => ⟨w.heap.size + 1, 0, rfl, ⟨Nat.lt_succ_self _, hlt⟩, fun j hj => ?_⟩⟩
  have := (h4 j hj (by omega)).mono (S' := fun b => w.heap.size < b ∧ b < wr.heap.size) (fun b hb => ⟨by have := hb.1; omega, hb.2⟩)
  simpa using this

/-- A clone, said so that nil and the rest go one way. -/
def cloneRel (l : List Int) (w : World) (e : Ending) (w' : World) : Prop :=
  ∃ a c, e = .returned (.slice a l.length c) ∧ Below w.heap.size w w' ∧ IntsAt .i64 (fun b => w.heap.size ≤ b ∧ b < w'.heap.size) w' a l
theorem cloneRel_of {et : TypeId} {a : Option Addr} {l : List Int} {w : World} {e : Ending} {w' : World} (h : clonePost et a l w e w') : cloneRel l w e w' := by
  rcases h with ⟨_, rfl, rfl, rfl⟩ | ⟨_, rfl, h1, h2, h3⟩
  · exact ⟨none, 0, rfl, Below.refl _ _, fun h => absurd h (by simp)⟩
  · refine ⟨_, _, rfl, h3, fun hpos => ⟨w.heap.size, 0, rfl, ⟨Nat.le_refl _, by omega⟩, fun j hj => ?_⟩⟩
    have := h1.cell hj
    simpa [hj] using this

/-- The sessions' loop: k sessions are laid. B: the history's block; sb: the sessions' row. -/
def SOuter (T : List PTxn) (SS : List PSes) (w : World) (ta : Option Addr) (tc sb : Nat) (k : Nat) (wr : World) : Prop :=
  Below w.heap.size w wr ∧ wr.rowIs w.heap.size 88 3 (hcell (.slice ta T.length tc) (.slice (some ⟨sb, 0, none⟩) SS.length SS.length)) ∧
  TxnsAt (fun b => w.heap.size < b ∧ b < sb) wr ta T ∧
  (∃ f, wr.rowIs sb 95 (SS.length * 2) f) ∧ ∀ i (h : i < SS.length), i < k → SesAt (fun b => sb < b ∧ b < wr.heap.size) wr sb (i * 2) SS[i]
theorem SOuter.drew {T : List PTxn} {SS : List PSes} {w wr : World} {ta : Option Addr} {tc sb k : Nat} (h : SOuter T SS w ta tc sb k wr) : SOuter T SS w ta tc sb k wr.drew :=
  ⟨h.1.drew, h.2.1, h.2.2.1, h.2.2.2.1, h.2.2.2.2⟩
theorem sOuter_start {T : List PTxn} (SS : List PSes) {w wc : World} {ta : Option Addr} {tc : Nat} (h1 : Below w.heap.size w wc) (h2 : wc.rowIs w.heap.size 88 3 (hcell (.slice ta T.length tc) (.slice none 0 0)))
    (h3 : TxnsAt (fun b => w.heap.size < b ∧ b < wc.heap.size) wc ta T) :
    SOuter T SS w ta tc wc.heap.size 0 ((wc.setCell ⟨w.heap.size, 1, none⟩ (.slice (some ⟨wc.heap.size, 0, none⟩) SS.length SS.length)).alloc (.cells (madeCells #[.int .i64 0, .slice none 0 0] (SS.length * 2)) 95)) := by
  have hlt := h2.lt
  have hs : (wc.setCell ⟨w.heap.size, 1, none⟩ (.slice (some ⟨wc.heap.size, 0, none⟩) SS.length SS.length)).heap.size = wc.heap.size := by simp [World.setCell]
  refine ⟨(h1.setCell (Nat.le_refl _) _).alloc (by omega) _, ?_, ?_, ⟨fun i => #[.int .i64 0, .slice none 0 0][i % 2]!, ?_⟩, fun _ _ hi => absurd hi (Nat.not_lt_zero _)⟩
  · refine ((h2.set 1 _).alloc _).congr (fun i hi => ?_)
    match i, hi with
    | 0, _ => rfl
    | 1, _ => rfl
    | 2, _ => rfl
  · refine h3.kept (fun b hb => ?_)
    rw [(MapKept.heap_alloc _ _).2 b (by rw [hs]; exact hb.2), Below.heap_setCell _ _ _ _ (by have := hb.1; simp; omega)]
  · have := rowIs_made (wc.setCell ⟨w.heap.size, 1, none⟩ (.slice (some ⟨wc.heap.size, 0, none⟩) SS.length SS.length)) #[.int .i64 0, .slice none 0 0] (SS.length * 2) 95
    rw [hs] at this
    simpa using this
theorem sOuter_step {T : List PTxn} {SS : List PSes} {w wr w1 : World} {ta : Option Addr} {tc sb k : Nat} (h : SOuter T SS w ta tc sb k wr) (hk : k < SS.length) (hsb : w.heap.size < sb) (hb : Below wr.heap.size wr w1) (a : Option Addr) (c : Nat)
    (hI : IntsAt .i64 (fun b => wr.heap.size ≤ b ∧ b < w1.heap.size) w1 a SS[k].txns) :
    SOuter T SS w ta tc sb (k + 1) ((w1.setCell ⟨sb, k * 2, none⟩ (.int .i64 SS[k].id)).setCell ⟨sb, k * 2 + 1, none⟩ (.slice a SS[k].txns.length c)) := by
  obtain ⟨h1, h2, h3, ⟨f, h4⟩, h5⟩ := h
  have hlt := h4.lt
  have r2 := h2.of_block (hb.block _ (by omega))
  have r4 := h4.of_block (hb.block _ hlt)
  have s4 := (r4.set (k * 2) (.int .i64 SS[k].id)).set (k * 2 + 1) (.slice a SS[k].txns.length c)
  have hsize : ((w1.setCell ⟨sb, k * 2, none⟩ (.int .i64 SS[k].id)).setCell ⟨sb, k * 2 + 1, none⟩ (.slice a SS[k].txns.length c)).heap.size = w1.heap.size := by simp [World.setCell]
  have same : ∀ b, b ≠ sb → ((w1.setCell ⟨sb, k * 2, none⟩ (.int .i64 SS[k].id)).setCell ⟨sb, k * 2 + 1, none⟩ (.slice a SS[k].txns.length c)).heap[b]? = w1.heap[b]? := fun b hb => by
    rw [Below.heap_setCell _ _ _ _ hb, Below.heap_setCell _ _ _ _ hb]
  have hb0 := h1.size
  refine ⟨((h1.trans (hb.mono (by omega))).setCell (by simp; omega) _).setCell (by simp; omega) _, r2.of_block (same _ (by omega)), ?_, ⟨_, s4⟩, fun i hi hik => ?_⟩
  · refine h3.kept (fun b hb' => ?_)
    rw [same b (by have := hb'.2; omega)]
    exact hb.block b (by have := hb'.2; omega)
  · by_cases e : i = k
    · subst e
      refine ⟨?_, a, c, ?_, ?_⟩
      · rw [s4.cell (by omega)]; simp
      · rw [s4.cell (by omega)]; simp
      · refine (hI.kept (fun b hb' => same b ?_)).mono (fun b hb' => ?_)
        · have := hb'.1; omega
        · rw [hsize]; have := hb'.1; exact ⟨by omega, hb'.2⟩
    · obtain ⟨g1, a', c', g3, g4⟩ := h5 i hi (by omega)
      rw [h4.cell (by omega)] at g1 g3
      refine ⟨?_, a', c', ?_, ?_⟩
      · rw [s4.cell (by omega), ← g1]; rw [if_neg (by omega), if_neg (by omega)]
      · rw [s4.cell (by omega), ← g3]; rw [if_neg (by omega), if_neg (by omega)]
      · refine (g4.kept (fun b hb' => ?_)).mono (fun b hb' => ?_)
        · rw [same b (by have := hb'.1; omega)]
          exact hb.block b hb'.2
        · rw [hsize]; exact ⟨hb'.1, Nat.lt_of_lt_of_le hb'.2 hb.size⟩
theorem sOuter_done {T : List PTxn} {SS : List PSes} {w wr : World} {ta : Option Addr} {tc sb k : Nat} (h : SOuter T SS w ta tc sb k wr) (hk : SS.length ≤ k) (hsb : w.heap.size < sb) :
    histPost T SS w (.returned (.pointer (some ⟨w.heap.size, 0, none⟩))) wr := by
  obtain ⟨h1, h2, h3, ⟨f, h4⟩, h5⟩ := h
  have hlt := h4.lt
  refine ⟨rfl, h1, ta, tc, _, _, h2, h3.mono (fun b hb => ⟨hb.1, by have := hb.2; omega⟩), fun hpos => ⟨sb, 0, rfl, ⟨hsb, hlt⟩, fun j hj => ?_⟩⟩
  have := (h5 j hj (by omega)).mono (S' := fun b => w.heap.size < b ∧ b < wr.heap.size) (fun b hb => ⟨by have := hb.1; omega, hb.2⟩)
  simpa using this

def opsRel (ops : List POp) (wr : World) (v : Value) (wi : World) : Prop :=
  ∃ oa oc, v = .slice oa ops.length oc ∧ Below wr.heap.size wr wi ∧ OpsAt (fun b => wr.heap.size ≤ b ∧ b < wi.heap.size) wi oa ops

set_option maxHeartbeats 800000 in
set_option maxRecDepth 20000 in
theorem toHistory_any (a sa : Option Addr) (c sc : Nat) (S : Nat → Prop) (T : List PTxn) (SS : List PSes) (w : World) (hT : TxnsAt S w a T) (hSS : SessAt S w sa SS) (hS : ∀ b, S b → b < w.heap.size)
    (hn : 48 * T.length + 24 * opsSum T ≤ 1048576) (hnil : a = none → T.length = 0) (hsn : SS.length ≤ 1048576) (hsl : ∀ k (h : k < SS.length), SS[k].txns.length ≤ 1048576) :
    Calls Try.prog 12 #[.slice a T.length c, .slice sa SS.length sc] w (histPost T SS w) := by
  have hmk94 := fun w => run_make_rows (P := Try.prog) 84 94 #[.int .i64 0, .int .i64 0, .slice none 0 0] 3 40 Try.underlying84 (.agg #[.int .i64 0, .int .i64 0, .slice none 0 0]) rfl info94 .i64 .i64 T.length (by omega) (by omega) w
  have HT : Hid (TxnsAt S w a T) := hT
  have HSS : Hid (SessAt S w sa SS) := hSS
  have HS : Hid (∀ b, S b → b < w.heap.size) := hS
  have HN : Hid (48 * T.length + 24 * opsSum T ≤ 1048576) := hn
  have HI : Hid (a = none → T.length = 0) := hnil
  have hl : T.length ≤ 1048576 := by omega
  clear hT hSS hS hn hnil
  go_enter Try.func12, Try.ntmps12
  go_upto_if 14 with fail
  go_cut [] from 6 (fun w1 => midHist T w w1)
  case first =>
    cases a with
    | none =>
      have e0 := HI.out rfl
      obtain rfl : T = [] := List.eq_nil_of_length_eq_zero e0
      go_wp2
      go_meet
      case rel =>
        refine ⟨none, 0, (Below.refl _ _).alloc (Nat.le_refl _) _, ?_, fun h => absurd h (by simp)⟩
        refine ⟨_, (MapKept.heap_alloc w _).1, rfl, fun i hi => ?_⟩
        match i, hi with
        | 0, _ => rfl
        | 1, _ => rfl
        | 2, _ => rfl
    | some ad =>
      go_wp2
      go_loopw [23] (fun i wr => ∃ k : Nat, k ≤ T.length ∧ i = .int .i64 k ∧ Outer T w k wr ∧ w.heap.size + 1 < wr.heap.size) (fun i _ => T.length - (intOf i).toNat)
      case atStart => exact ⟨0, Nat.zero_le _, rfl, outer_start T w, by simp⟩
      case round =>
        rename World => wo
        obtain ⟨k, hk, rfl, hO, hsz⟩ := hrel
        have HO : Hid (Outer T w k wo) := hO
        clear hO
        by_cases hlt : k < T.length
        · obtain ⟨b, off, hab, hb, hx⟩ := HT.out (by omega)
          cases hab
          obtain ⟨g1, g2, a', c', g3, g4⟩ := hx k hlt
          have hbw := HS.out b hb
          have hBl := HO.out.1
          have f1 : wo.cell? ⟨b, off + k * 3, none⟩ = some (.int .i64 T[k].id) := (hBl.cell (p := ⟨b, _, none⟩) hbw).trans g1
          have f2 : wo.cell? ⟨b, off + k * 3 + 1, none⟩ = some (.int .i64 T[k].ses) := (hBl.cell (p := ⟨b, _, none⟩) hbw).trans g2
          have f3 : wo.cell? ⟨b, off + k * 3 + 2, none⟩ = some (.slice a' T[k].ops.length c') := (hBl.cell (p := ⟨b, _, none⟩) hbw).trans g3
          have HG : Hid (OpsAt (· < wo.heap.size) wo a' T[k].ops) := (g4.kept (fun x hx => hBl.block x (HS.out x hx))).mono (fun x hx => Nat.lt_of_lt_of_le (HS.out x hx) hBl.size)
          have hln := opsSum_at T k hlt
          have hN := HN.out
          obtain ⟨t, ht⟩ : ∃ t, t = T[k] := ⟨_, rfl⟩
          rw [← ht] at f1 f2 f3 HG hln
          have HTk : Hid (t = T[k]) := ht
          have hol : t.ops.length ≤ 1048576 := by omega
          have hbo : b < wo.heap.size := by omega
          clear g1 g2 g3 g4 hx hBl hln hN ht hbw
          have hmk92 := fun w => run_make_rows (P := Try.prog) 89 92 #[.int .u8 0, .int .i64 0, .int .i64 0] 3 24 Try.underlying89 (.agg #[.int .u8 0, .int .i64 0, .int .i64 0]) rfl info92 .i64 .i64 t.ops.length (by omega) (by omega) w
          go_upto_if 31 with fail
          go_cut [7] from 26 to 85 (fun v wi => opsRel t.ops wo v wi)
          case first =>
            cases a' with
            | none =>
              have e0 : t.ops = [] := by
                cases h : t.ops with
                | nil => rfl
                | cons x l => obtain ⟨_, _, h1, _⟩ := HG.out (by rw [h]; simp); cases h1
              have H0 : Hid (t.ops = []) := e0
              clear e0 hmk94 hmk92
              go_wp2
              go_meet
              case rel => exact ⟨none, 0, by rw [H0.out]; rfl, Below.refl _ _, fun h => absurd h (by rw [H0.out]; simp)⟩
            | some ad' =>
              have f3a := cal f3
              clear hmk94
              go_wp2
              go_loopw [45] (fun i wi => ∃ m : Nat, m ≤ t.ops.length ∧ i = .int .i64 m ∧ Inner t.ops wo m wi) (fun i _ => t.ops.length - (intOf i).toNat)
              case atStart => exact ⟨0, Nat.zero_le _, rfl, inner_start _ _⟩
              case round =>
                obtain ⟨m, hm, rfl, hI⟩ := hrel
                have HIn : Hid (Inner t.ops wo m wr) := hI
                clear f3a hmk92
                by_cases hml : m < t.ops.length
                · obtain ⟨b', off', hab', hb', hx'⟩ := HG.out (by omega)
                  cases hab'
                  obtain ⟨p1, p2, p3⟩ := hx' m hml
                  obtain ⟨hBi, ⟨f, hf⟩, _⟩ := hI
                  have q0 : wr.cell? ⟨b, off + k * 3 + 2, none⟩ = some (.slice (some ⟨b', off', none⟩) t.ops.length c') := (hBi.cell (p := ⟨b, _, none⟩) hbo).trans f3
                  have q1 : wr.cell? ⟨b', off' + m * 3, none⟩ = some (.int .u8 t.ops[m].kind) := (hBi.cell (p := ⟨b', _, none⟩) hb').trans p1
                  have q2 : wr.cell? ⟨b', off' + m * 3 + 1, none⟩ = some (.int .i64 t.ops[m].key) := (hBi.cell (p := ⟨b', _, none⟩) hb').trans p2
                  have q3 : wr.cell? ⟨b', off' + m * 3 + 2, none⟩ = some (.int .i64 t.ops[m].val) := (hBi.cell (p := ⟨b', _, none⟩) hb').trans p3
                  have r1 := hf.cell (show m * 3 < _ by omega)
                  have r2 := hf.cell (show m * 3 + 1 < _ by omega)
                  have r3 := hf.cell (show m * 3 + 2 < _ by omega)
                  have z1 := hf.frozen (m * 3)
                  have z2 := hf.frozen (m * 3 + 1)
                  have z3 := hf.frozen (m * 3 + 2)
                  have R := inner_step HIn.out hml (.cells #[.int .u8 t.ops[m].kind, .int .i64 t.ops[m].key, .int .i64 t.ops[m].val] 40)
                  have HR : Hid _ := R
                  have hlo : wo.heap.size < wr.heap.size := hf.lt
                  clear p1 p2 p3 hx' hBi hf R f1 f2 f3
                  generalize t.ops[m].kind = kd at q1 HR
                  generalize t.ops[m].key = ky at q2 HR
                  generalize t.ops[m].val = vl at q3 HR
                  go_wp2
                  go_roundw
                  case rel => exact ⟨m + 1, by omega, by go_num, HR.out⟩
                  case measure => simp [intOf]; omega
                · clear hI
                  go_wp2
                  go_meet
                  case rel =>
                    obtain ⟨i1, ⟨f, i2⟩, i3⟩ := HIn.out
                    exact ⟨_, _, rfl, i1, fun hpos => ⟨wo.heap.size, 0, rfl, ⟨Nat.le_refl _, i2.lt⟩, fun j hj => by simpa using i3 j hj (by omega)⟩⟩
          case rest =>
            obtain ⟨oa, oc, rfl, hBc, hOps⟩ := hcut
            have HOps : Hid (OpsAt (fun b => wo.heap.size ≤ b ∧ b < wc.heap.size) wc oa t.ops) := hOps
            have HBc : Hid (Below wo.heap.size wo wc) := hBc
            have hOO := HO.out
            obtain ⟨_, hh, ⟨f, hf⟩, _⟩ := hOO
            have y0 : wc.cell? ⟨w.heap.size, 0, none⟩ = some (.slice (some ⟨w.heap.size + 1, 0, none⟩) T.length T.length) := (hBc.cell (p := ⟨w.heap.size, 0, none⟩) (by simp; omega)).trans (hh.cell (by omega))
            have y1 : wc.cell? ⟨b, off + k * 3, none⟩ = some (.int .i64 t.id) := (hBc.cell (p := ⟨b, _, none⟩) hbo).trans f1
            have y2 : wc.cell? ⟨b, off + k * 3 + 1, none⟩ = some (.int .i64 t.ses) := (hBc.cell (p := ⟨b, _, none⟩) hbo).trans f2
            have hfc := hf.of_block (hBc.block _ (by omega))
            have r1 := hfc.cell (show k * 3 < _ by omega)
            have r2 := hfc.cell (show k * 3 + 1 < _ by omega)
            have r3 := hfc.cell (show k * 3 + 2 < _ by omega)
            have z1 := hfc.frozen (k * 3)
            have z2 := hfc.frozen (k * 3 + 1)
            have z3 := hfc.frozen (k * 3 + 2)
            have hkI : (k : Int) < T.length := by omega
            have hk0 : (0 : Int) ≤ k := by omega
            clear hOps hBc hh hf hfc f1 f2 f3 hmk92 hmk94
            go_wp2
            go_big_region
            go_wp2
            go_roundw
            case rel =>
              have e := HTk.out
              subst e
              exact ⟨k + 1, by omega, by go_num, (outer_step HO.out hlt HBc.out oa oc HOps.out hsz).drew, Nat.lt_of_lt_of_le hsz (by simpa [World.setCell] using HBc.out.size)⟩
            case measure => simp [intOf]; omega
        · clear hmk94
          go_wp2
          go_meet
          case rel => exact outer_done HO.out (by omega)
  case rest =>
    clear hmk94
    obtain ⟨ta, tc, m1, m2, m3⟩ := hcut
    have M1 : Hid (Below w.heap.size w wc) := m1
    have M2 : Hid (wc.rowIs w.heap.size 88 3 (hcell (.slice ta T.length tc) (.slice none 0 0))) := m2
    have M3 : Hid (TxnsAt (fun b => w.heap.size < b ∧ b < wc.heap.size) wc ta T) := m3
    have c1 := m2.cell (show 1 < 3 by omega)
    have z1 := m2.frozen 1
    have hlc := m2.lt
    clear m1 m2 m3
    cases sa with
    | none =>
      have e0 : SS = [] := by
        cases SS with
        | nil => rfl
        | cons x l => obtain ⟨_, _, h1, _⟩ := HSS.out (by simp); cases h1
      subst e0
      go_wp2
      go_ret
      exact ⟨rfl, M1.out, ta, tc, none, 0, M2.out, M3.out, fun h => absurd h (by simp)⟩
    | some sad =>
      have hmk95 := fun w => run_make_rows (P := Try.prog) 85 95 #[.int .i64 0, .slice none 0 0] 2 32 Try.underlying85 (.agg #[.int .i64 0, .slice none 0 0]) rfl info95 .i64 .i64 SS.length (by omega) (by omega) w
      go_wp2
      go_loopw [96] (fun i wr => ∃ k : Nat, k ≤ SS.length ∧ i = .int .i64 k ∧ SOuter T SS w ta tc wc.heap.size k wr) (fun i _ => SS.length - (intOf i).toNat)
      case atStart => exact ⟨0, Nat.zero_le _, rfl, sOuter_start SS M1.out M2.out M3.out⟩
      case round =>
        obtain ⟨k, hk, rfl, hO⟩ := hrel
        have HO : Hid (SOuter T SS w ta tc wc.heap.size k wr) := hO
        clear hO hmk95
        by_cases hlt : k < SS.length
        · obtain ⟨b, off, hab, hb, hx⟩ := HSS.out (by omega)
          cases hab
          obtain ⟨g1, a', c', g3, g4⟩ := hx k hlt
          have hbw := HS.out b hb
          have hBl := HO.out.1
          have f1 : wr.cell? ⟨b, off + k * 2, none⟩ = some (.int .i64 SS[k].id) := (hBl.cell (p := ⟨b, _, none⟩) hbw).trans g1
          have f3 : wr.cell? ⟨b, off + k * 2 + 1, none⟩ = some (.slice a' SS[k].txns.length c') := (hBl.cell (p := ⟨b, _, none⟩) hbw).trans g3
          have HG : Hid (IntsAt .i64 (· < wr.heap.size) wr a' SS[k].txns) := (g4.kept (fun x hx => hBl.block x (HS.out x hx))).mono (fun x hx => Nat.lt_of_lt_of_le (HS.out x hx) hBl.size)
          have hln := hsl k hlt
          have hSO := HO.out
          obtain ⟨_, hh, _, ⟨f, hf⟩, _⟩ := hSO
          have y0 : wr.cell? ⟨w.heap.size, 1, none⟩ = some (.slice (some ⟨wc.heap.size, 0, none⟩) SS.length SS.length) := hh.cell (by omega)
          have hhl := hh.lt
          have hfl := hf.lt
          have r1 := fun (w1 : World) (h : Below wr.heap.size wr w1) => (hf.of_block (h.block _ hfl)).cell (show k * 2 < _ by omega)
          have r2 := fun (w1 : World) (h : Below wr.heap.size wr w1) => (hf.of_block (h.block _ hfl)).cell (show k * 2 + 1 < _ by omega)
          have z1 := fun (w1 : World) (h : Below wr.heap.size wr w1) => (hf.of_block (h.block _ hfl)).frozen (k * 2)
          have z2 := fun (w1 : World) (h : Below wr.heap.size wr w1) => (hf.of_block (h.block _ hfl)).frozen (k * 2 + 1)
          have R1 : Hid _ := r1
          have R2 : Hid _ := r2
          have Z1 : Hid _ := z1
          have Z2 : Hid _ := z2
          have hbo : b < wr.heap.size := Nat.lt_of_lt_of_le hbw hBl.size
          have hkI : (k : Int) < SS.length := by omega
          have hk0 : (0 : Int) ≤ k := by omega
          obtain ⟨t, ht⟩ : ∃ t, t = SS[k] := ⟨_, rfl⟩
          rw [← ht] at f1 f3 HG hln
          have HTk : Hid (t = SS[k]) := ht
          have n1 : wc.heap.size ≠ w.heap.size := by omega
          have n2 : wc.heap.size ≠ b := by omega
          have n3 : w.heap.size ≠ wc.heap.size := by omega
          have n4 : b ≠ wc.heap.size := by omega
          clear g1 g3 g4 hx hBl hh hf r1 r2 z1 z2 ht hbw
          go_wp2
          go_region_held3 (fun w' => w'.cell? ⟨w.heap.size, 1, none⟩ = some (.slice (some ⟨wc.heap.size, 0, none⟩) SS.length SS.length) ∧ w'.cell? ⟨b, off + k * 2, none⟩ = some (.int .i64 t.id) ∧ w'.cell? ⟨b, off + k * 2 + 1, none⟩ = some (.slice a' t.txns.length c'))
            (go_keep)
            (first | (go_at_call 29; refine (cloneInts_any a' c' (· < wr.heap.size) t.txns wr.drew HG.out (fun _ h => h) hln).mono ?_; intro e w1 hcl; obtain ⟨a1, c1, rfl, hB0, hI1⟩ := cloneRel_of hcl; have hB1 : Below wr.heap.size wr w1 := undrew hB0; have q1 := R1.out w1 hB1; have q2 := R2.out w1 hB1; have q3 := Z1.out w1 hB1; have q4 := Z2.out w1 hB1; have q5 := (bcell hB1).1; have q6 := hB1.size; have HB1 := hide hB1; have HI1 := hide hI1; clear hB1 hI1 hcl hB0))
          go_wp2
          go_roundw
          case rel =>
            have e := HTk.out
            subst e
            exact ⟨k + 1, by omega, by go_num, sOuter_step HO.out hlt (by omega) HB1.out _ _ HI1.out⟩
          case measure => simp [intOf]; omega
        · go_wp2
          go_ret
          exact sOuter_done HO.out (by omega) (by omega)
end Go.Proofs.Qxb6602646a
