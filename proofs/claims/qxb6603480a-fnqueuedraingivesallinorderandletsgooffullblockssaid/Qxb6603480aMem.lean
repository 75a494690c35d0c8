/-
  MEMORY AS PLAIN DATA (no program's text in here): rows of numbers, rows of rows, slices that grow by append.
-/
import Derived.WalkKit
import Derived.WalkSpells
import Derived.WalkLawsBesides
import Derived.MapKept
import Derived.Maps.OwnSet
import Derived.Deep.OwnRows
import Derived.Laws.CopyOwn
import Derived.Deep.RegionHeld3
import Derived.BigQuiet
import Derived.Deep.AppendLies
import Derived.Deep.CutBlock
namespace Go.Proofs.Qxb6603480a
open Go.RowKit

/-- An array of numbers of kind q. -/
def IntsAt (q : IntKind) (S : Nat → Prop) (w : World) (a : Option Addr) (l : List Int) : Prop :=
  0 < l.length → ∃ b off, a = some ⟨b, off, none⟩ ∧ S b ∧ ∀ j (h : j < l.length), w.cell? ⟨b, off + j, none⟩ = some (.int q l[j])
/-- On the blocks S the two worlds are one. -/
def SameOn (S : Nat → Prop) (w w' : World) : Prop := ∀ b, S b → w'.heap[b]? = w.heap[b]?
theorem SameOn.cell {S : Nat → Prop} {w w' : World} (k : SameOn S w w') {b o : Nat} (hb : S b) : w'.cell? ⟨b, o, none⟩ = w.cell? ⟨b, o, none⟩ := World.cell?_of_block (w := w) (k b hb)
theorem SameOn.of_below {B : Nat} {w w' : World} (h : Below B w w') : SameOn (· < B) w w' := fun b hb => h.block b hb
theorem SameOn.refl (S : Nat → Prop) (w : World) : SameOn S w w := fun _ _ => rfl
theorem SameOn.trans {S : Nat → Prop} {a b c : World} (h : SameOn S a b) (k : SameOn S b c) : SameOn S a c := fun x hx => (k x hx).trans (h x hx)
theorem SameOn.sub {S S' : Nat → Prop} {w w' : World} (h : SameOn S w w') (k : ∀ b, S' b → S b) : SameOn S' w w' := fun b hb => h b (k b hb)

section
variable {S S' : Nat → Prop} {w w' : World} {a : Option Addr}
theorem IntsAt.kept {q : IntKind} {l : List Int} (h : IntsAt q S w a l) (k : SameOn S w w') : IntsAt q S w' a l := fun hl => by
  obtain ⟨b, off, ha, hb, hx⟩ := h hl
  exact ⟨b, off, ha, hb, fun j hj => (k.cell hb).trans (hx j hj)⟩
theorem IntsAt.mono {q : IntKind} {l : List Int} (h : IntsAt q S w a l) (k : ∀ b, S b → S' b) : IntsAt q S' w a l := fun hl => by
  obtain ⟨b, off, ha, hb, hx⟩ := h hl
  exact ⟨b, off, ha, k b hb, hx⟩
end
/-- The array at a holds the rows L of numbers of kind q. -/
def RowsAt (q : IntKind) (S : Nat → Prop) (w : World) (a : Option Addr) (L : List (List Int)) : Prop :=
  0 < L.length → ∃ b off, a = some ⟨b, off, none⟩ ∧ S b ∧ ∀ i (h : i < L.length), ∃ a' c', w.cell? ⟨b, off + i, none⟩ = some (.slice a' L[i].length c') ∧ IntsAt q S w a' L[i]
theorem RowsAt.kept {q : IntKind} {S : Nat → Prop} {w w' : World} {a : Option Addr} {L : List (List Int)} (h : RowsAt q S w a L) (k : SameOn S w w') : RowsAt q S w' a L := fun hl => by
  obtain ⟨b, off, ha, hb, hx⟩ := h hl
  refine ⟨b, off, ha, hb, fun i hi => ?_⟩
  obtain ⟨a', c', h1, h2⟩ := hx i hi
  exact ⟨a', c', (k.cell hb).trans h1, h2.kept k⟩
theorem RowsAt.mono {q : IntKind} {S S' : Nat → Prop} {w : World} {a : Option Addr} {L : List (List Int)} (h : RowsAt q S w a L) (k : ∀ b, S b → S' b) : RowsAt q S' w a L := fun hl => by
  obtain ⟨b, off, ha, hb, hx⟩ := h hl
  refine ⟨b, off, ha, k b hb, fun i hi => ?_⟩
  obtain ⟨a', c', h1, h2⟩ := hx i hi
  exact ⟨a', c', h1, h2.mono k⟩
theorem RowsAt.grow {q : IntKind} {w w' : World} {a : Option Addr} {L : List (List Int)} (h : RowsAt q (· < w.heap.size) w a L) (k : Below w.heap.size w w') : RowsAt q (· < w'.heap.size) w' a L :=
  (h.kept (SameOn.of_below k)).mono fun _ hb => Nat.lt_of_lt_of_le hb k.size
theorem ints_grow {q : IntKind} {w w' : World} {a : Option Addr} {l : List Int} (h : IntsAt q (· < w.heap.size) w a l) (k : Below w.heap.size w w') : IntsAt q (· < w'.heap.size) w' a l :=
  (h.kept (SameOn.of_below k)).mono fun _ hb => Nat.lt_of_lt_of_le hb k.size

/-! ### The two facts that the walk takes of a world of which 'Below' alone is known -/
theorem bcell {W w1 : World} {B : Nat} (hb : Below B W w1) : (∀ b o, b < B → w1.cell? ⟨b, o, none⟩ = W.cell? ⟨b, o, none⟩) ∧ (∀ b o, b < B → w1.frozen? ⟨b, o, none⟩ = W.frozen? ⟨b, o, none⟩) :=
  ⟨fun b o h => hb.cell (p := ⟨b, o, none⟩) h, fun b o h => hb.frozen (p := ⟨b, o, none⟩) h⟩

theorem undrew {B : Nat} {w w1 : World} (h : Below B w.drew w1) : Below B w w1 := ⟨h.os, h.tape, h.output, h.size, h.block⟩
theorem hide {p : Prop} (h : p) : Hid p := h
/-- A cell that is there is there behind a new block. -/
theorem cal {w : World} {a : Addr} {v : Value} (h : w.cell? a = some v) : ∀ o, (w.alloc o).cell? a = some v := fun o =>
  (World.cell?_of_block (w := w) ((MapKept.heap_alloc w o).2 a.block (World.block_lt_of_cell? w a h))).trans h
theorem cell_box (w : World) (c : Array Value) (t : TypeId) (i : Nat) (v : Value) (h : c[i]? = some v) : (w.alloc (.cells c t)).cell? ⟨w.heap.size, i, none⟩ = some v := by
  simp only [World.cell?, (MapKept.heap_alloc w (.cells c t)).1]
  simpa using h
/-- Behind an append onto a row of the call's own: what lies below the row's base. -/
theorem push_cell {W w1 : World} {v : Value} {base b o : Nat} (hg : W.grownBy w1 v.ownBlock) (hv : ∀ k, v.ownBlock = some k → base ≤ k) (hb : b < base) (hB : b < W.heap.size) : w1.cell? ⟨b, o, none⟩ = W.cell? ⟨b, o, none⟩ :=
  World.cell?_of_block (w := W) (hg.block b hB (fun e => by have := hv b e.symm; omega))
/-! ### A region that draws its order, whose operations read what was there and whose callees at most make new blocks: one walk in the text's order. The kind of worlds: what lies beyond w by new blocks and draws. -/
structure Ext (w : World) where
  val : World
  prop : Below w.heap.size w val
theorem Ext.cell {w : World} (p : Ext w) (b o : Nat) (h : b < w.heap.size) : p.val.cell? ⟨b, o, none⟩ = w.cell? ⟨b, o, none⟩ := p.prop.cell (p := ⟨b, o, none⟩) h
theorem Ext.some (w : World) : Nonempty (Ext w) := ⟨⟨w, Below.refl _ _⟩⟩
theorem Ext.grow {w : World} (p : Ext w) {w' : World} (h : Below p.val.heap.size p.val w') : ∃ q : Ext w, w' = q.val := ⟨⟨w', p.prop.trans (h.mono p.prop.size)⟩, rfl⟩
theorem wp_region_ext {P : Program} {id : Nat} {Q : Exit → Act → World → Prop} {a : Act} {w : World} {l : List Oper} (hm : P.follows .mixedOrders = true) (hB : Region.lexB .any l.toArray = true)
    (h : wpQuiet P l.toArray (fun w' => ∃ p : Ext w, w' = p.val) (fun a' => ∀ w', (∃ p : Ext w, w' = p.val) → Q .normal a' w') l a) : (Code.region id l.toArray true).wp P Q a w :=
  wp_region_quiet (C := fun w' => ∃ p : Ext w, w' = p.val) hm hB ⟨⟨w.drew, (Below.refl _ _).drew⟩, rfl⟩ (by simpa using h)
/-- 'make([]T, n)': an equation for every world: a new row of n * size cells. -/
theorem run_make_rows {P : Program} (t e : TypeId) (zc : Array Value) (size bytes : Nat) (ht : P.underlying t = some (.slice e)) (z : Value) (hz : z.cells = zc) (hi : (P.info? e).map (fun i => (i.zero, i.size, i.bytes)) = some (some z, size, bytes))
    (kl kc : IntKind) (n : Nat) (hbytes : bytes * n ≤ 281474976710656) (h63 : n ≤ 9223372036854775807) (w : World) :
    (Instr.makeSlice t (.int kl (n : Int)) (.int kc (n : Int))).run P w = .ok (.slice (some ⟨w.heap.size, 0, none⟩) n n) (w.alloc (.cells (madeCells zc (n * size)) e)) := by
  obtain ⟨i, hi0, h1, h2, h3⟩ := info_parts hi
  subst h2 h3 hz
  have hb' : (i.bytes : Int) * (n : Int) ≤ 281474976710656 := by
    have h : ((i.bytes * n : Nat) : Int) ≤ 281474976710656 := by omega
    rwa [Int.natCast_mul] at h
  have hr := run_make (P := P) w t e i z ht hi0 h1 kl kc n n (by omega) (Int.le_refl _) hb' (by omega)
  simpa using hr
theorem rowIs_made (w : World) (zc : Array Value) (n : Nat) (t : TypeId) : (w.alloc (.cells (madeCells zc n) t)).rowIs w.heap.size t n (fun i => zc[i % zc.size]!) :=
  ⟨_, (MapKept.heap_alloc w _).1, size_madeCells _ _, fun i hi => by simp [madeCells, hi]⟩

section own
variable {B size n : Nat} {w w' : World} {e : TypeId} {v : Value} {xs : List Value}
theorem owns_block (h : w.ownsRow B e size v n xs) {g : Nat} (hg : v.ownBlock = some g) : ∃ cur, w.heap[g]? = some (.cells cur e (0, 0)) := by
  rcases h.2 with ⟨rfl, _⟩ | ⟨g', cap, cur, rfl, _, hh, _⟩
  · cases hg
  · cases hg; exact ⟨cur, hh⟩
theorem owns_lt (h : w.ownsRow B e size v n xs) {g : Nat} (hg : v.ownBlock = some g) : g < w.heap.size := by
  obtain ⟨cur, hh⟩ := owns_block h hg
  exact (Array.getElem?_eq_some_iff.1 hh).1
theorem owns_base (h : w.ownsRow B e size v n xs) {g : Nat} (hg : v.ownBlock = some g) : B ≤ g := by
  rcases h.2 with ⟨rfl, _⟩ | ⟨g', cap, cur, rfl, hb, _⟩
  · cases hg
  · cases hg; exact hb
theorem owns_kept (h : w.ownsRow B e size v n xs) (k : ∀ g, v.ownBlock = some g → w'.heap[g]? = w.heap[g]?) : w'.ownsRow B e size v n xs := by
  refine ⟨h.1, ?_⟩
  rcases h.2 with h2 | ⟨g, cap, cur, rfl, hb, hh, r⟩
  · exact .inl h2
  · exact .inr ⟨g, cap, cur, rfl, hb, (k g rfl).trans hh, r⟩
theorem owns_ne {B' size' n' : Nat} {e' : TypeId} {v' : Value} {xs' : List Value} (h : w.ownsRow B e size v n xs) (h' : w.ownsRow B' e' size' v' n' xs') (he : e ≠ e') {g g' : Nat} (hg : v.ownBlock = some g) (hg' : v'.ownBlock = some g') : g ≠ g' := by
  rintro rfl
  obtain ⟨c, h1⟩ := owns_block h hg
  obtain ⟨c', h2⟩ := owns_block h' hg'
  rw [h1] at h2
  cases h2
  exact he rfl
theorem owns_set (h : w.ownsRow B e size v n xs) {g i : Nat} (hg : v.ownBlock = some g) (x : Value) : (w.setCell ⟨g, i, none⟩ x).ownsRow B e size v n (xs.set i x) := by
  rcases h.2 with ⟨rfl, _⟩ | ⟨g', cap, cur, rfl, hb, hh, hn, hm, hs, hk⟩
  · cases hg
  · cases hg
    refine ⟨by simpa using h.1, .inr ⟨g', cap, cur.setIfInBounds i x, rfl, hb, ?_, hn, hm, by simpa using hs, ?_⟩⟩
    · simp [World.setCell, Array.getElem?_modify, hh]
    · rw [Array.toList_setIfInBounds, List.take_set, hk]
end own
theorem owns_row {B size n cap g : Nat} {w : World} {e : TypeId} {xs : List Value} (h : w.ownsRow B e size (.slice (some ⟨g, 0, none⟩) n cap) n xs) : ∃ f, w.rowIs g e (cap * size) f ∧ xs.length ≤ cap * size ∧ cap ≤ maxLen ∧ ∀ i (hi : i < xs.length), f i = xs[i] := by
  rcases h.2 with ⟨h2, _⟩ | ⟨g', cap', cur, hv, _, hh, hn, hm, hs, ht⟩
  · cases h2
  · cases hv
    have hl := h.1
    have hle : xs.length ≤ cap * size := by
      rw [hl]; exact Nat.mul_le_mul_right _ hn
    refine ⟨fun i => cur[i]!, ⟨cur, hh, hs, fun i hi => by rw [← hs] at hi; simp [hi]⟩, hle, hm, fun i hi => ?_⟩
    have e1 : (cur.toList.take (n * size))[i]? = some xs[i] := by rw [ht]; simp [hi]
    rw [List.getElem?_take_of_lt (by omega)] at e1
    have e2 : cur[i]? = some xs[i] := by simpa using e1
    simp only [getElem!_def, e2]
/-! ### A slice that grew by append from block w0.heap.size on; cf: an element's cells. -/
def GRel {α : Type} (e : TypeId) (size : Nat) (cf : α → List Value) (w0 : World) (l : List α) (v : Value) (wr : World) : Prop :=
  wr.ownsRow w0.heap.size e size v l.length (l.flatMap cf) ∧ Below w0.heap.size w0 wr
theorem flatMap_get {α : Type} {size : Nat} {cf : α → List Value} (hc : ∀ x, (cf x).length = size) (l : List α) : ∀ i (hi : i < l.length) j, j < size → (l.flatMap cf)[i * size + j]? = (cf l[i])[j]? := by
  induction l with
  | nil => intro i hi; simp at hi
  | cons a l ih =>
    intro i hi j hj
    rw [List.flatMap_cons]
    cases i with
    | zero =>
      rw [Nat.zero_mul, Nat.zero_add, List.getElem?_append_left (by rw [hc]; exact hj)]
      rfl
    | succ i =>
      rw [List.getElem?_append_right (by rw [hc, Nat.succ_mul]; omega), hc]
      have e : (i + 1) * size + j - size = i * size + j := by rw [Nat.succ_mul]; omega
      rw [e]
      exact ih i (by simpa using hi) j hj
theorem flatMap_len {α : Type} {size : Nat} {cf : α → List Value} (hc : ∀ x, (cf x).length = size) (l : List α) : (l.flatMap cf).length = l.length * size := by
  induction l with
  | nil => simp
  | cons a l ih => rw [List.flatMap_cons, List.length_append, hc, ih, List.length_cons, Nat.succ_mul]; omega
section
variable {α : Type} {e : TypeId} {size : Nat} {cf : α → List Value} {w0 wr w' : World} {l : List α} {v : Value}
theorem GRel.nil (e : TypeId) (size : Nat) (cf : α → List Value) (w0 : World) : GRel e size cf w0 [] (.slice none 0 0) w0 := ⟨World.ownsRow_nil _ _ _ _, Below.refl _ _⟩
theorem GRel.grow (h : GRel e size cf w0 l v wr) (k : Below wr.heap.size wr w') : GRel e size cf w0 l v w' := ⟨owns_kept h.1 (fun g hg => k.block g (owns_lt h.1 hg)), h.2.trans (k.mono h.2.size)⟩
theorem GRel.push (h : GRel e size cf w0 l v wr) {W w1 : World} (hW : Below wr.heap.size wr W) {g cap : Nat} {x : α} {news : List Value} (hx : cf x = news)
    (h1 : w1.ownsRow w0.heap.size e size (.slice (some ⟨g, 0, none⟩) (l.length + 1) cap) (l.length + 1) (l.flatMap cf ++ news)) (hg : W.grownBy w1 v.ownBlock) :
    GRel e size cf w0 (l ++ [x]) (.slice (some ⟨g, 0, none⟩) (l.length + 1) cap) w1 := by
  refine ⟨?_, (h.2.trans (hW.mono h.2.size)).grown hg (Nat.le_trans h.2.size hW.size) (fun k hk => owns_base h.1 hk)⟩
  rw [List.flatMap_append, List.length_append, List.flatMap_singleton, hx]
  exact h1
theorem GRel.form (h : GRel e size cf w0 l v wr) (hc : ∀ x, (cf x).length = size) : (v = .slice none 0 0 ∧ l = []) ∨
    ∃ g cap, v = .slice (some ⟨g, 0, none⟩) l.length cap ∧ w0.heap.size ≤ g ∧ g < wr.heap.size ∧ ∀ i (hi : i < l.length) j u, (cf l[i])[j]? = some u → wr.cell? ⟨g, i * size + j, none⟩ = some u := by
  rcases h.1.2 with ⟨rfl, h2⟩ | ⟨g, cap, cur, rfl, _⟩
  · exact .inl ⟨rfl, List.eq_nil_of_length_eq_zero h2⟩
  · obtain ⟨f, h1, h2, h3, h4⟩ := owns_row h.1
    refine .inr ⟨g, cap, rfl, owns_base h.1 rfl, h1.lt, fun i hi j u hu => ?_⟩
    have hj : j < size := by
      rw [← hc l[i]]
      exact (List.getElem?_eq_some_iff.1 hu).1
    have hlt : i * size + j < (l.flatMap cf).length := by
      rw [flatMap_len hc]
      have : (i + 1) * size ≤ l.length * size := Nat.mul_le_mul_right _ hi
      rw [Nat.succ_mul] at this
      omega
    have e1 := flatMap_get hc l i hi j hj
    rw [hu, List.getElem?_eq_getElem hlt] at e1
    rw [h1.cell (by omega), h4 _ hlt, Option.some.inj e1]
theorem GRel.val (h : GRel e size cf w0 l v wr) : ∃ a c, v = .slice a l.length c := by
  rcases h.1.2 with ⟨rfl, h2⟩ | ⟨g, cap, cur, rfl, _⟩
  · exact ⟨none, 0, by rw [h2]⟩
  · exact ⟨_, cap, rfl⟩
end

end Go.Proofs.Qxb6603480a
