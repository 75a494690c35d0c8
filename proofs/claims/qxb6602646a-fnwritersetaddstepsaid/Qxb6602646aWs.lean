/-
  The writer set in memory, and its plain model.
-/
import Derived.Test.Qxb6602646aOw
import Derived.Deep.AppendLies
import Derived.Deep.CutBlock
namespace Go.Proofs.Qxb6602646a
open Go.RowKit

/-! ### Worlds that part inside Fp and in new blocks alone -/
structure Out (Fp : Nat → Prop) (w w' : World) : Prop where
  os : w'.os = w.os
  tape : w'.tape = w.tape
  output : w'.output = w.output
  size : w.heap.size ≤ w'.heap.size
  block : ∀ b, b < w.heap.size → ¬ Fp b → w'.heap[b]? = w.heap[b]?
theorem Out.refl (Fp : Nat → Prop) (w : World) : Out Fp w w := ⟨rfl, rfl, rfl, Nat.le_refl _, fun _ _ _ => rfl⟩
theorem Out.trans {Fp : Nat → Prop} {a b c : World} (h : Out Fp a b) (k : Out Fp b c) : Out Fp a c :=
  ⟨k.os.trans h.os, k.tape.trans h.tape, k.output.trans h.output, Nat.le_trans h.size k.size, fun i hi hn => (k.block i (Nat.lt_of_lt_of_le hi h.size) hn).trans (h.block i hi hn)⟩
theorem Out.of_below {Fp : Nat → Prop} {w w' : World} (h : Below w.heap.size w w') : Out Fp w w' := ⟨h.os, h.tape, h.output, h.size, fun b hb _ => h.block b hb⟩
theorem Out.of_turned {Fp : Nat → Prop} {w w' : World} {r : Nat} (h : Turned w w' r) (hr : Fp r) : Out Fp w w' :=
  ⟨h.os, h.tape, h.output, Nat.le_of_eq h.size.symm, fun b _ hn => h.block b (fun e => hn (e ▸ hr))⟩
theorem Out.setCell {Fp : Nat → Prop} {w0 w : World} (h : Out Fp w0 w) {a : Addr} (ha : Fp a.block) (v : Value) : Out Fp w0 (w.setCell a v) :=
  h.trans ⟨rfl, rfl, rfl, by simp [World.setCell], fun b _ hn => Below.heap_setCell _ _ _ _ (fun e => hn (e ▸ ha))⟩
theorem Out.of_grown {Fp : Nat → Prop} {w w' : World} {row : Option Nat} (h : w.grownBy w' row) (hr : ∀ g, row = some g → Fp g) : Out Fp w w' :=
  ⟨h.os, h.tape, h.output, h.size, fun b hb hn => h.block b hb (fun e => hn (hr b e.symm))⟩
theorem Out.cell {Fp : Nat → Prop} {w w' : World} (h : Out Fp w w') {b o : Nat} (hb : b < w.heap.size) (hn : ¬ Fp b) : w'.cell? ⟨b, o, none⟩ = w.cell? ⟨b, o, none⟩ :=
  World.cell?_of_block (w := w) (h.block b hb hn)

/-! ### The set's memory -/
structure CRec where
  kb : Nat
  rnd : Int
  tv : Value
  tx : List Int
def kwc (r : Int) (v : Value) : Nat → Value
  | 0 => .int .i64 r
  | _ => v
def wsc (hp : Value) (rnd : Int) (av mv : Value) : Nat → Value
  | 0 => hp
  | 1 => .int .i64 rnd
  | 2 => av
  | _ => mv
/-- A slice of numbers of the set's own. -/
def IOwn (w : World) (v : Value) (l : List Int) : Prop := w.ownsRow 0 3 1 v l.length (l.map (Value.int .i64))
def RecAt (w : World) (R : CRec) : Prop := w.rowIs R.kb 108 2 (kwc R.rnd R.tv) ∧ IOwn w R.tv R.tx
def foot (av : Value) (recs : List (Int × CRec)) : List Nat := av.ownBlock.toList ++ recs.flatMap fun p => p.2.tv.ownBlock.toList
def ptrs (recs : List (Int × CRec)) : List (Int × Value) := recs.map fun p => (p.1, .pointer (some ⟨p.2.kb, 0, none⟩))
structure WsAt (Fp : Nat → Prop) (w : World) (wb : Nat) (hp : Value) (rnd : Int) (av : Value) (al : List Int) (mb : Nat) (recs : List (Int × CRec)) : Prop where
  row : w.rowIs wb 110 4 (wsc hp rnd av (.map (some mb)))
  added : IOwn w av al
  map : MapAt ikey w mb (ptrs recs)
  each : ∀ p ∈ recs, RecAt w p.2
  kbs : (recs.map fun p => p.2.kb).Nodup
  rows : (foot av recs).Nodup
  keys : (recs.map fun p => p.1).Nodup
  fwb : Fp wb
  fmb : Fp mb
  fkb : ∀ p ∈ recs, Fp p.2.kb
  frow : ∀ b ∈ foot av recs, Fp b

theorem IOwn.block {w : World} {v : Value} {l : List Int} (h : IOwn w v l) {g : Nat} (hg : v.ownBlock = some g) : ∃ cur, w.heap[g]? = some (.cells cur 3 (0, 0)) := by
  rcases h.2 with ⟨rfl, _⟩ | ⟨g', cap, cur, rfl, _, hh, _⟩
  · cases hg
  · cases hg; exact ⟨cur, hh⟩
theorem IOwn.kept {w w' : World} {v : Value} {l : List Int} (h : IOwn w v l) (k : ∀ g, v.ownBlock = some g → w'.heap[g]? = w.heap[g]?) : IOwn w' v l := by
  refine ⟨h.1, ?_⟩
  rcases h.2 with h2 | ⟨g, cap, cur, rfl, hb, hh, r⟩
  · exact .inl h2
  · exact .inr ⟨g, cap, cur, rfl, hb, (k g rfl).trans hh, r⟩
theorem IOwn.lt {w : World} {v : Value} {l : List Int} (h : IOwn w v l) {g : Nat} (hg : v.ownBlock = some g) : g < w.heap.size := by
  obtain ⟨cur, hh⟩ := h.block hg
  exact (Array.getElem?_eq_some_iff.1 hh).1
/-- What the slice looks like. -/
theorem IOwn.form {w : World} {v : Value} {l : List Int} (h : IOwn w v l) : (v = .slice none 0 0 ∧ l = []) ∨ ∃ g cap, v = .slice (some ⟨g, 0, none⟩) l.length cap ∧ l.length ≤ cap ∧ cap ≤ maxLen ∧ g < w.heap.size ∧ ∃ f, w.rowIs g 3 cap f ∧ ∀ i (hi : i < l.length), f i = .int .i64 l[i] := by
  rcases h.2 with ⟨rfl, h2⟩ | ⟨g, cap, cur, rfl, _, hh, hn, hm, hs, ht⟩
  · exact .inl ⟨rfl, List.eq_nil_of_length_eq_zero h2⟩
  · rw [Nat.mul_one] at hs ht
    refine .inr ⟨g, cap, rfl, hn, hm, (Array.getElem?_eq_some_iff.1 hh).1, fun i => cur[i]!, ⟨cur, hh, hs, fun i hi => by rw [← hs] at hi; simp [hi]⟩, fun i hi => ?_⟩
    have e : (cur.toList.take l.length)[i]? = some (.int .i64 l[i]) := by rw [ht]; simp [hi]
    rw [List.getElem?_take_of_lt hi] at e
    have e1 : cur[i]? = some (.int .i64 l[i]) := by simpa using e
    simp only [getElem!_def, e1]
theorem IOwn.nil (w : World) : IOwn w (.slice none 0 0) [] := World.ownsRow_nil _ _ _ _
/-- A row of numbers, whole, is such a slice. -/
theorem IOwn.of_row {w : World} {g : Nat} {l : List Int} (h : w.rowIs g 3 l.length (fun j => .int .i64 (l.getD j 0))) (hm : l.length ≤ maxLen) : IOwn w (.slice (some ⟨g, 0, none⟩) l.length l.length) l := by
  obtain ⟨c, h1, h2, h3⟩ := h
  refine ⟨by simp, .inr ⟨g, l.length, c, rfl, Nat.zero_le _, h1, Nat.le_refl _, hm, by omega, ?_⟩⟩
  rw [Nat.mul_one]
  apply List.ext_getElem?
  intro i
  by_cases hi : i < l.length
  · rw [List.getElem?_take_of_lt hi]
    have := h3 i hi
    simp [hi] at this ⊢
    exact this
  · rw [List.getElem?_eq_none (by simp; omega), List.getElem?_eq_none (by simp; omega)]
theorem RecAt.kept {w w' : World} {R : CRec} (h : RecAt w R) (k1 : w'.heap[R.kb]? = w.heap[R.kb]?) (k2 : ∀ g, R.tv.ownBlock = some g → w'.heap[g]? = w.heap[g]?) : RecAt w' R := ⟨h.1.of_block k1, h.2.kept k2⟩

theorem mem_foot_rec {av : Value} {recs : List (Int × CRec)} {p : Int × CRec} (hp : p ∈ recs) {g : Nat} (hg : p.2.tv.ownBlock = some g) : g ∈ foot av recs :=
  List.mem_append_right _ (List.mem_flatMap.2 ⟨p, hp, by simp [hg]⟩)
theorem mem_foot_av {av : Value} {recs : List (Int × CRec)} {g : Nat} (hg : av.ownBlock = some g) : g ∈ foot av recs := List.mem_append_left _ (by simp [hg])

/-- New blocks leave the set alone. -/
theorem WsAt.grow {Fp : Nat → Prop} {w w' : World} {wb mb : Nat} {hp av : Value} {rnd : Int} {al : List Int} {recs : List (Int × CRec)} (h : WsAt Fp w wb hp rnd av al mb recs) (k : Below w.heap.size w w') : WsAt Fp w' wb hp rnd av al mb recs :=
  ⟨h.row.of_block (k.block _ h.row.lt), h.added.kept (fun g hg => k.block g (h.added.lt hg)), h.map.kept (k.block _ h.map.lt),
   fun p hp => (h.each p hp).kept (k.block _ (h.each p hp).1.lt) (fun g hg => k.block g ((h.each p hp).2.lt hg)), h.kbs, h.rows, h.keys, h.fwb, h.fmb, h.fkb, h.frow⟩
theorem row_ne_map {w : World} {b r : Nat} {t : TypeId} {n : Nat} {f : Nat → Value} {κ : Type} {enc : κ → Value} {L : List (κ × Value)} (h : w.rowIs b t n f) (k : MapAt enc w r L) : b ≠ r := by
  rintro rfl
  obtain ⟨c, h1, _⟩ := h
  obtain ⟨es, cl, h2, _⟩ := k
  rw [h1] at h2
  cases h2
theorem row_ne_row {w : World} {b b' : Nat} {t t' : TypeId} {n n' : Nat} {f f' : Nat → Value} (h : w.rowIs b t n f) (k : w.rowIs b' t' n' f') (ht : t ≠ t') : b ≠ b' := by
  rintro rfl
  obtain ⟨c, h1, _⟩ := h
  obtain ⟨c', h2, _⟩ := k
  rw [h1] at h2
  cases h2
  exact ht rfl
theorem row_ne_own {w : World} {b g : Nat} {t : TypeId} {n : Nat} {f : Nat → Value} {v : Value} {l : List Int} (h : w.rowIs b t n f) (k : IOwn w v l) (ht : t ≠ 3) (hg : v.ownBlock = some g) : b ≠ g := by
  rintro rfl
  obtain ⟨c, h1, _⟩ := h
  obtain ⟨cur, h2⟩ := k.block hg
  rw [h1] at h2
  cases h2
  exact ht rfl
theorem map_ne_own {w : World} {r g : Nat} {κ : Type} {enc : κ → Value} {L : List (κ × Value)} {v : Value} {l : List Int} (h : MapAt enc w r L) (k : IOwn w v l) (hg : v.ownBlock = some g) : r ≠ g := by
  rintro rfl
  obtain ⟨es, cl, h1, _⟩ := h
  obtain ⟨cur, h2⟩ := k.block hg
  rw [h1] at h2
  cases h2

/-! ### The record of a key -/
theorem ptrs_split {recs : List (Int × CRec)} {k : Int} {v : Value} (h : lk (ptrs recs) k = some v) : ∃ l1 R l2, recs = l1 ++ (k, R) :: l2 ∧ v = .pointer (some ⟨R.kb, 0, none⟩) ∧ ∀ p ∈ l1, p.1 ≠ k := by
  induction recs with
  | nil => cases h
  | cons p recs ih =>
    simp only [ptrs, List.map_cons, lk] at h
    by_cases e : p.1 = k
    · rw [if_pos e] at h
      refine ⟨[], p.2, recs, ?_, ?_, by simp⟩
      · subst e; rfl
      · simpa using h.symm
    · rw [if_neg e] at h
      obtain ⟨l1, R, l2, h1, h2, h3⟩ := ih h
      refine ⟨p :: l1, R, l2, by rw [h1]; rfl, h2, fun q hq => ?_⟩
      rcases List.mem_cons.1 hq with rfl | hq
      · exact e
      · exact h3 q hq
theorem ptrs_none {recs : List (Int × CRec)} {k : Int} (h : lk (ptrs recs) k = none) : ∀ p ∈ recs, p.1 ≠ k := by
  induction recs with
  | nil => intro p hp; cases hp
  | cons p recs ih =>
    simp only [ptrs, List.map_cons, lk] at h
    by_cases e : p.1 = k
    · rw [if_pos e] at h; cases h
    · rw [if_neg e] at h
      intro q hq
      rcases List.mem_cons.1 hq with rfl | hq
      · exact e
      · exact ih h q hq
theorem up_fresh {recs : List (Int × CRec)} {k : Int} {R : CRec} (h : ∀ p ∈ recs, p.1 ≠ k) : up (ptrs recs) k (.pointer (some ⟨R.kb, 0, none⟩)) = ptrs (recs ++ [(k, R)]) := by
  induction recs with
  | nil => rfl
  | cons p recs ih =>
    simp only [ptrs, List.map_cons, up, List.cons_append] at ih ⊢
    rw [if_neg (h p (by simp)), ih (fun q hq => h q (by simp [hq]))]
/-- The plain content. -/
def absR (recs : List (Int × CRec)) : List (Int × (Int × List Int)) := recs.map fun p => (p.1, (p.2.rnd, p.2.tx))
theorem absR_upd {l1 l2 : List (Int × CRec)} {k : Int} {R R' : CRec} (h : ∀ p ∈ l1, p.1 ≠ k) : absR (l1 ++ (k, R') :: l2) = upG (absR (l1 ++ (k, R) :: l2)) k (R'.rnd, R'.tx) := by
  induction l1 with
  | nil => simp [absR, upG]
  | cons p l1 ih =>
    simp only [absR, List.cons_append, List.map_cons, upG] at ih ⊢
    rw [if_neg (h p (by simp)), ih (fun q hq => h q (by simp [hq]))]
theorem absR_fresh {recs : List (Int × CRec)} {k : Int} {R : CRec} (h : ∀ p ∈ recs, p.1 ≠ k) : absR (recs ++ [(k, R)]) = upG (absR recs) k (R.rnd, R.tx) := by
  induction recs with
  | nil => rfl
  | cons p recs ih =>
    simp only [absR, List.cons_append, List.map_cons, upG] at ih ⊢
    rw [if_neg (h p (by simp)), ih (fun q hq => h q (by simp [hq]))]
theorem absR_lk {l1 l2 : List (Int × CRec)} {k : Int} {R : CRec} (h : ∀ p ∈ l1, p.1 ≠ k) : lkG (absR (l1 ++ (k, R) :: l2)) k = some (R.rnd, R.tx) := by
  induction l1 with
  | nil => simp [absR, lkG]
  | cons p l1 ih =>
    simp only [absR, List.cons_append, List.map_cons, lkG] at ih ⊢
    rw [if_neg (h p (by simp)), ih (fun q hq => h q (by simp [hq]))]
theorem absR_lk_none {recs : List (Int × CRec)} {k : Int} (h : ∀ p ∈ recs, p.1 ≠ k) : lkG (absR recs) k = none := by
  induction recs with
  | nil => rfl
  | cons p recs ih =>
    simp only [absR, List.map_cons, lkG] at ih ⊢
    rw [if_neg (h p (by simp)), ih (fun q hq => h q (by simp [hq]))]

section
variable {Fp : Nat → Prop} {w w' : World} {wb mb : Nat} {hp av : Value} {rnd : Int} {al : List Int}
/-- A NEW KEY: its empty record is laid and entered. -/
theorem WsAt.fresh {recs : List (Int × CRec)} {k : Int} (h : WsAt Fp w wb hp rnd av al mb recs) (hk : ∀ p ∈ recs, p.1 ≠ k) (hF : ∀ b, w.heap.size ≤ b → Fp b) {W : World} (hW : Below w.heap.size w W)
    (hrow : W.rowIs w.heap.size 108 2 (kwc 0 (.slice none 0 0)))
    (hm : MapAt ikey w' mb (up (ptrs recs) k (.pointer (some ⟨w.heap.size, 0, none⟩)))) (ht : Turned W w' mb) :
    WsAt Fp w' wb hp rnd av al mb (recs ++ [(k, ⟨w.heap.size, 0, .slice none 0 0, []⟩)]) := by
  have hg := h.grow hW
  have e : ∀ b, b ≠ mb → w'.heap[b]? = W.heap[b]? := fun b hb => ht.block b hb
  refine ⟨hg.row.of_block (e _ (row_ne_map hg.row hg.map)), hg.added.kept (fun g hgg => e g (fun x => map_ne_own hg.map hg.added hgg x.symm)), ?_, ?_, ?_, ?_, ?_, h.fwb, h.fmb, ?_, ?_⟩
  · rw [← up_fresh hk]; exact hm
  · intro p hp
    rcases List.mem_append.1 hp with hp | hp
    · have hr := hg.each p hp
      exact hr.kept (e _ (row_ne_map hr.1 hg.map)) (fun g hgg => e g (fun x => map_ne_own hg.map hr.2 hgg x.symm))
    · simp at hp
      subst hp
      exact ⟨hrow.of_block (e _ (row_ne_map hrow hg.map)), IOwn.nil _⟩
  · rw [List.map_append, List.nodup_append]
    refine ⟨h.kbs, by simp, fun a ha b hb => ?_⟩
    simp at hb
    subst hb
    obtain ⟨p, hp, rfl⟩ := List.mem_map.1 ha
    have := (h.each p hp).1.lt
    omega
  · have : foot av (recs ++ [(k, ⟨w.heap.size, 0, .slice none 0 0, []⟩)]) = foot av recs := by simp [foot, Value.ownBlock]
    rw [this]
    exact h.rows
  · rw [List.map_append, List.nodup_append]
    refine ⟨h.keys, by simp, fun a ha b hb => ?_⟩
    simp at hb
    subst hb
    obtain ⟨p, hp, rfl⟩ := List.mem_map.1 ha
    exact hk p hp
  · intro p hp
    rcases List.mem_append.1 hp with hp | hp
    · exact h.fkb p hp
    · simp at hp; subst hp; exact hF _ (Nat.le_refl _)
  · have : foot av (recs ++ [(k, ⟨w.heap.size, 0, .slice none 0 0, []⟩)]) = foot av recs := by simp [foot, Value.ownBlock]
    rw [this]
    exact h.frow

theorem nodup_mid {A B : List Nat} {x y : List Nat} (h : (A ++ (x ++ B)).Nodup) (hy : y = x ∨ ∃ g, y = [g] ∧ g ∉ A ∧ g ∉ B) : (A ++ (y ++ B)).Nodup := by
  rcases hy with rfl | ⟨g, rfl, h1, h2⟩
  · exact h
  · obtain ⟨a1, a2, a3⟩ := List.nodup_append.1 h
    obtain ⟨b1, b2, b3⟩ := List.nodup_append.1 a2
    rw [List.nodup_append]
    refine ⟨a1, ?_, fun a ha b hb => ?_⟩
    · show (g :: B).Nodup
      exact List.nodup_cons.2 ⟨h2, b2⟩
    · rcases List.mem_append.1 hb with hb | hb
      · simp at hb; subst hb; exact fun e => h1 (e ▸ ha)
      · exact a3 a ha b (List.mem_append_right _ hb)

/-- ONE RECORD TURNS: its own block, its own row; the new row is the old one or a new block. -/
theorem WsAt.upd {l1 l2 : List (Int × CRec)} {k : Int} {R : CRec} (h : WsAt Fp w wb hp rnd av al mb (l1 ++ (k, R) :: l2)) (r' : Int) (tv' : Value) (tx' : List Int)
    (hr : w'.rowIs R.kb 108 2 (kwc r' tv')) (ho : IOwn w' tv' tx') (same : ∀ b, b < w.heap.size → b ≠ R.kb → R.tv.ownBlock ≠ some b → w'.heap[b]? = w.heap[b]?)
    (hown : tv'.ownBlock = R.tv.ownBlock ∨ ∃ g, tv'.ownBlock = some g ∧ w.heap.size ≤ g) (hF : ∀ b, w.heap.size ≤ b → Fp b) :
    WsAt Fp w' wb hp rnd av al mb (l1 ++ (k, ⟨R.kb, r', tv', tx'⟩) :: l2) := by
  have hmemR : (k, R) ∈ l1 ++ (k, R) :: l2 := by simp
  have hRr := h.each _ hmemR
  have hfoot : foot av (l1 ++ (k, R) :: l2) = (av.ownBlock.toList ++ l1.flatMap fun p => p.2.tv.ownBlock.toList) ++ (R.tv.ownBlock.toList ++ l2.flatMap fun p => p.2.tv.ownBlock.toList) := by simp [foot]
  have hfoot' : foot av (l1 ++ (k, ⟨R.kb, r', tv', tx'⟩) :: l2) = (av.ownBlock.toList ++ l1.flatMap fun p => p.2.tv.ownBlock.toList) ++ (tv'.ownBlock.toList ++ l2.flatMap fun p => p.2.tv.ownBlock.toList) := by simp [foot]
  have hrows := h.rows
  rw [hfoot] at hrows
  obtain ⟨n1, n2, n3⟩ := List.nodup_append.1 hrows
  obtain ⟨n4, n5, n6⟩ := List.nodup_append.1 n2
  -- a row of another is not R's
  have apartL : ∀ g, g ∈ (av.ownBlock.toList ++ l1.flatMap fun p => p.2.tv.ownBlock.toList) → R.tv.ownBlock ≠ some g := fun g hg e => n3 g hg g (List.mem_append_left _ (by simp [e])) rfl
  have apartR : ∀ g, g ∈ (l2.flatMap fun p => p.2.tv.ownBlock.toList) → R.tv.ownBlock ≠ some g := fun g hg e => n6 g (by simp [e]) g hg rfl
  have old : ∀ p : Int × CRec, (p ∈ l1 ∨ p ∈ l2) → RecAt w' p.2 := by
    intro p hp
    have hmem : p ∈ l1 ++ (k, R) :: l2 := by rcases hp with hp | hp <;> simp [hp]
    have hpr := h.each p hmem
    have hkb : p.2.kb ≠ R.kb := by
      have hd := h.kbs
      rw [List.map_append, List.map_cons] at hd
      obtain ⟨_, d2, d3⟩ := List.nodup_append.1 hd
      rcases hp with hp | hp
      · exact d3 _ (List.mem_map.2 ⟨p, hp, rfl⟩) _ (by simp)
      · intro e
        exact (List.nodup_cons.1 d2).1 (by rw [← e]; exact List.mem_map.2 ⟨p, hp, rfl⟩)
    refine hpr.kept (same _ hpr.1.lt hkb (fun e => row_ne_own hpr.1 hRr.2 (by decide) e rfl)) (fun g hg => same g (hpr.2.lt hg) (fun e => row_ne_own hRr.1 hpr.2 (by decide) hg e.symm) ?_)
    rcases hp with hp | hp
    · exact apartL g (List.mem_append_right _ (List.mem_flatMap.2 ⟨p, hp, by simp [hg]⟩))
    · exact apartR g (List.mem_flatMap.2 ⟨p, hp, by simp [hg]⟩)
  have ltA : ∀ g, g ∈ (av.ownBlock.toList ++ l1.flatMap fun p => p.2.tv.ownBlock.toList) → g < w.heap.size := by
    intro g hg
    rcases List.mem_append.1 hg with hg | hg
    · exact h.added.lt (by simpa using hg)
    · obtain ⟨p, hp, hg⟩ := List.mem_flatMap.1 hg
      exact (h.each p (by simp [hp])).2.lt (by simpa using hg)
  have ltB : ∀ g, g ∈ (l2.flatMap fun p => p.2.tv.ownBlock.toList) → g < w.heap.size := by
    intro g hg
    obtain ⟨p, hp, hg⟩ := List.mem_flatMap.1 hg
    exact (h.each p (by simp [hp])).2.lt (by simpa using hg)
  refine ⟨h.row.of_block (same _ h.row.lt (row_ne_row h.row hRr.1 (by decide)) (fun e => row_ne_own h.row hRr.2 (by decide) e rfl)),
    h.added.kept (fun g hg => same g (h.added.lt hg) (fun e => row_ne_own hRr.1 h.added (by decide) hg e.symm) (apartL g (List.mem_append_left _ (by simp [hg])))), ?_, ?_, ?_, ?_, ?_, h.fwb, h.fmb, ?_, ?_⟩
  · have : ptrs (l1 ++ (k, ⟨R.kb, r', tv', tx'⟩) :: l2) = ptrs (l1 ++ (k, R) :: l2) := by simp [ptrs]
    rw [this]
    exact h.map.kept (same _ h.map.lt (fun e => row_ne_map hRr.1 h.map e.symm) (fun e => map_ne_own h.map hRr.2 e rfl))
  · intro p hp
    rcases List.mem_append.1 hp with hp | hp
    · exact old p (.inl hp)
    · rcases List.mem_cons.1 hp with rfl | hp
      · exact ⟨hr, ho⟩
      · exact old p (.inr hp)
  · have := h.kbs
    simpa using this
  · rw [hfoot']
    refine nodup_mid hrows ?_
    rcases hown with e | ⟨g, e, hg⟩
    · exact .inl (by rw [e])
    · exact .inr ⟨g, by simp [e], fun hA => by have := ltA g hA; omega, fun hB => by have := ltB g hB; omega⟩
  · have := h.keys
    simpa using this
  · intro p hp
    rcases List.mem_append.1 hp with hp | hp
    · exact h.fkb p (by simp [hp])
    · rcases List.mem_cons.1 hp with rfl | hp
      · exact h.fkb (k, R) hmemR
      · exact h.fkb p (by simp [hp])
  · intro b hb
    rw [hfoot'] at hb
    rcases List.mem_append.1 hb with hb | hb
    · exact h.frow b (by rw [hfoot]; exact List.mem_append_left _ hb)
    · rcases List.mem_append.1 hb with hb | hb
      · rcases hown with e | ⟨g, e, hg⟩
        · exact h.frow b (by rw [hfoot, ← e]; exact List.mem_append_right _ (List.mem_append_left _ hb))
        · rw [e] at hb; simp at hb; subst hb; exact hF _ hg
      · exact h.frow b (by rw [hfoot]; exact List.mem_append_right _ (List.mem_append_right _ hb))

theorem IOwn.set {v : Value} {l : List Int} (h : IOwn w v l) {g t : Nat} (hg : v.ownBlock = some g) (x : Int) : IOwn (w.setCell ⟨g, t, none⟩ (.int .i64 x)) v (l.set t x) := by
  rcases h.2 with ⟨rfl, _⟩ | ⟨g', cap, cur, rfl, hb, hh, hn, hm, hs, hk⟩
  · cases hg
  · cases hg
    refine ⟨by simp, .inr ⟨g', cap, cur.setIfInBounds t (.int .i64 x), by simp, hb, ?_, by simpa using hn, hm, by simpa using hs, ?_⟩⟩
    · simp [World.setCell, Array.getElem?_modify, hh]
    · rw [Nat.mul_one] at hk ⊢
      rw [Array.toList_setIfInBounds, List.length_set, List.take_set, hk, List.map_set]
/-- 'added[t] = x'. -/
theorem WsAt.setAdded {recs : List (Int × CRec)} (h : WsAt Fp w wb hp rnd av al mb recs) {g t : Nat} (hg : av.ownBlock = some g) (x : Int) : WsAt Fp (w.setCell ⟨g, t, none⟩ (.int .i64 x)) wb hp rnd av (al.set t x) mb recs := by
  have e : ∀ b, b ≠ g → (w.setCell ⟨g, t, none⟩ (.int .i64 x)).heap[b]? = w.heap[b]? := fun b hb => Below.heap_setCell _ _ _ _ hb
  have hrows := h.rows
  obtain ⟨n1, n2, n3⟩ := List.nodup_append.1 (show (av.ownBlock.toList ++ recs.flatMap fun p => p.2.tv.ownBlock.toList).Nodup from hrows)
  refine ⟨h.row.of_block (e _ (row_ne_own h.row h.added (by decide) hg)), h.added.set hg x, h.map.kept (e _ (map_ne_own h.map h.added hg)), fun p hp => ?_, h.kbs, h.rows, h.keys, h.fwb, h.fmb, h.fkb, h.frow⟩
  have hr := h.each p hp
  exact hr.kept (e _ (row_ne_own hr.1 h.added (by decide) hg)) (fun g' hg' => e g' (fun q => n3 g (by simp [hg]) g' (List.mem_flatMap.2 ⟨p, hp, by simp [hg']⟩) q.symm))
/-- 'w.round = r'. -/
theorem WsAt.setRound {recs : List (Int × CRec)} (h : WsAt Fp w wb hp rnd av al mb recs) (r : Int) : WsAt Fp (w.setCell ⟨wb, 1, none⟩ (.int .i64 r)) wb hp r av al mb recs := by
  have e : ∀ b, b ≠ wb → (w.setCell ⟨wb, 1, none⟩ (.int .i64 r)).heap[b]? = w.heap[b]? := fun b hb => Below.heap_setCell _ _ _ _ hb
  refine ⟨(h.row.set 1 _).congr (fun i hi => ?_), h.added.kept (fun g hg => e g (fun q => row_ne_own h.row h.added (by decide) hg q.symm)), h.map.kept (e _ (fun q => row_ne_map h.row h.map q.symm)), fun p hp => ?_, h.kbs, h.rows, h.keys, h.fwb, h.fmb, h.fkb, h.frow⟩
  · match i, hi with
    | 0, _ => rfl
    | 1, _ => rfl
    | 2, _ => rfl
    | 3, _ => rfl
  · have hr := h.each p hp
    exact hr.kept (e _ (fun q => row_ne_row h.row hr.1 (by decide) q.symm)) (fun g hg => e g (fun q => row_ne_own h.row hr.2 (by decide) hg q.symm))
end

/-! ### What one add does to the plain content -/
def lastIs (tx : List Int) (t : Int) : Prop := tx.getLast? = some t
/-- The transactions of a key behind one write of it by t. -/
def addTx (rnd t : Int) (q : Option (Int × List Int)) : List Int :=
  let tx := match q with | some (r, tx) => if r = rnd then tx else [] | none => []
  if tx.getLast? = some t then tx else tx ++ [t]
def opAdd (rnd t : Int) (A : List (Int × (Int × List Int))) (o : POp) : List (Int × (Int × List Int)) :=
  if o.kind = 1 then upG A o.key (rnd, addTx rnd t (lkG A o.key)) else A
end Go.Proofs.Qxb6602646a
