/-
  The map of writes by key in memory, and its plain model.
-/
import Derived.Test.Qxb6602646aWs
import Derived.Deep.AppendLies
import Derived.Deep.CutBlock
namespace Go.Proofs.Qxb6602646a
open Go.RowKit

structure WEl where
  ses : Int
  pv : Value
  pl : List Int
structure WRec where
  v : Value
  el : List WEl
def elCells (l : List WEl) : List Value := l.flatMap fun e => [.int .i64 e.ses, e.pv]
def POwn (B : Nat) (w : World) (v : Value) (l : List Int) : Prop := w.ownsRow B 21 1 v l.length (l.map (Value.int .i32))
def OOwn (B : Nat) (w : World) (v : Value) (l : List WEl) : Prop := w.ownsRow B 102 2 v l.length (elCells l)
def WRecAt (B : Nat) (w : World) (R : WRec) : Prop := OOwn B w R.v R.el ∧ ∀ e ∈ R.el, POwn B w e.pv e.pl
def outs (recs : List (Int × WRec)) : List Nat := recs.flatMap fun p => p.2.v.ownBlock.toList
def elIns (l : List WEl) : List Nat := l.flatMap fun e => e.pv.ownBlock.toList
def inns (recs : List (Int × WRec)) : List Nat := recs.flatMap fun p => elIns p.2.el
def vals (recs : List (Int × WRec)) : List (Int × Value) := recs.map fun p => (p.1, p.2.v)
def absE (l : List WEl) : List (Int × List Int) := l.map fun e => (e.ses, e.pl)
def absW (recs : List (Int × WRec)) : List (Int × List (Int × List Int)) := recs.map fun p => (p.1, absE p.2.el)
structure WbAt (B : Nat) (w0 w : World) (mb : Nat) (recs : List (Int × WRec)) : Prop where
  map : MapAt ikey w mb (vals recs)
  each : ∀ p ∈ recs, WRecAt B w p.2
  outsN : (outs recs).Nodup
  insN : (inns recs).Nodup
  keys : (recs.map fun p => p.1).Nodup
  mbB : B ≤ mb
  bel : Below B w0 w
/-- One record in work: the map still holds L. -/
structure WMid (B : Nat) (w0 w : World) (mb : Nat) (L : List (Int × Value)) (k : Int) (R : WRec) (l1 l2 : List (Int × WRec)) : Prop where
  map : MapAt ikey w mb L
  upd : ∀ v, up L k v = vals l1 ++ (k, v) :: vals l2
  each : ∀ p, p ∈ l1 ∨ p ∈ l2 → WRecAt B w p.2
  own : WRecAt B w R
  outsN : (outs (l1 ++ (k, R) :: l2)).Nodup
  insN : (inns (l1 ++ (k, R) :: l2)).Nodup
  keys : ((l1 ++ (k, R) :: l2).map fun p => p.1).Nodup
  mbB : B ≤ mb
  bel : Below B w0 w

section own
variable {B size n : Nat} {w w' : World} {e : TypeId} {v : Value} {xs : List Value}
theorem owns_block (h : w.ownsRow B e size v n xs) {g : Nat} (hg : v.ownBlock = some g) : ∃ cur, w.heap[g]? = some (.cells cur e (0, 0)) := by
  rcases h.2 with ⟨rfl, _⟩ | ⟨g', cap, cur, rfl, _, hh, _⟩
  · cases hg
  · cases hg; exact ⟨cur, hh⟩
theorem owns_lt (h : w.ownsRow B e size v n xs) {g : Nat} (hg : v.ownBlock = some g) : g < w.heap.size := by
  obtain ⟨cur, hh⟩ := owns_block h hg
  exact (Array.getElem?_eq_some_iff.1 hh).1
theorem owns_base (h : w.ownsRow B e size v n xs) {g : Nat} (hg : v.ownBlock = some g) : B ≤ g := by
  rcases h.2 with ⟨rfl, _⟩ | ⟨g', cap, cur, rfl, hb, _⟩
  · cases hg
  · cases hg; exact hb
theorem owns_kept (h : w.ownsRow B e size v n xs) (k : ∀ g, v.ownBlock = some g → w'.heap[g]? = w.heap[g]?) : w'.ownsRow B e size v n xs := by
  refine ⟨h.1, ?_⟩
  rcases h.2 with h2 | ⟨g, cap, cur, rfl, hb, hh, r⟩
  · exact .inl h2
  · exact .inr ⟨g, cap, cur, rfl, hb, (k g rfl).trans hh, r⟩
theorem owns_ne {B' size' n' : Nat} {e' : TypeId} {v' : Value} {xs' : List Value} (h : w.ownsRow B e size v n xs) (h' : w.ownsRow B' e' size' v' n' xs') (he : e ≠ e') {g g' : Nat} (hg : v.ownBlock = some g) (hg' : v'.ownBlock = some g') : g ≠ g' := by
  rintro rfl
  obtain ⟨c, h1⟩ := owns_block h hg
  obtain ⟨c', h2⟩ := owns_block h' hg'
  rw [h1] at h2
  cases h2
  exact he rfl
theorem owns_ne_map {κ : Type} {enc : κ → Value} {r : Nat} {L : List (κ × Value)} (h : w.ownsRow B e size v n xs) (k : MapAt enc w r L) {g : Nat} (hg : v.ownBlock = some g) : g ≠ r := by
  rintro rfl
  obtain ⟨c, h1⟩ := owns_block h hg
  obtain ⟨es, cl, h2, _⟩ := k
  rw [h1] at h2
  cases h2
theorem owns_set (h : w.ownsRow B e size v n xs) {g i : Nat} (hg : v.ownBlock = some g) (x : Value) : (w.setCell ⟨g, i, none⟩ x).ownsRow B e size v n (xs.set i x) := by
  rcases h.2 with ⟨rfl, _⟩ | ⟨g', cap, cur, rfl, hb, hh, hn, hm, hs, hk⟩
  · cases hg
  · cases hg
    refine ⟨by simpa using h.1, .inr ⟨g', cap, cur.setIfInBounds i x, rfl, hb, ?_, hn, hm, by simpa using hs, ?_⟩⟩
    · simp [World.setCell, Array.getElem?_modify, hh]
    · rw [Array.toList_setIfInBounds, List.take_set, hk]
end own

theorem vals_split {recs : List (Int × WRec)} {k : Int} {v : Value} (h : lk (vals recs) k = some v) : ∃ l1 R l2, recs = l1 ++ (k, R) :: l2 ∧ v = R.v ∧ ∀ p ∈ l1, p.1 ≠ k := by
  induction recs with
  | nil => cases h
  | cons p recs ih =>
    simp only [vals, List.map_cons, lk] at h
    by_cases e : p.1 = k
    · rw [if_pos e] at h
      refine ⟨[], p.2, recs, ?_, ?_, by simp⟩
      · subst e; rfl
      · simpa using h.symm
    · rw [if_neg e] at h
      obtain ⟨l1, R, l2, h1, h2, h3⟩ := ih h
      refine ⟨p :: l1, R, l2, by rw [h1]; rfl, h2, fun q hq => ?_⟩
      rcases List.mem_cons.1 hq with rfl | hq
      · exact e
      · exact h3 q hq
theorem vals_none {recs : List (Int × WRec)} {k : Int} (h : lk (vals recs) k = none) : ∀ p ∈ recs, p.1 ≠ k := by
  induction recs with
  | nil => intro p hp; cases hp
  | cons p recs ih =>
    simp only [vals, List.map_cons, lk] at h
    by_cases e : p.1 = k
    · rw [if_pos e] at h; cases h
    · rw [if_neg e] at h
      intro q hq
      rcases List.mem_cons.1 hq with rfl | hq
      · exact e
      · exact ih h q hq
theorem up_vals {l1 l2 : List (Int × WRec)} {k : Int} {x : Value} (h : ∀ p ∈ l1, p.1 ≠ k) (v : Value) : up (vals l1 ++ (k, x) :: vals l2) k v = vals l1 ++ (k, v) :: vals l2 := by
  induction l1 with
  | nil => simp [vals, up]
  | cons p l1 ih =>
    simp only [vals, List.map_cons, up, List.cons_append] at ih ⊢
    rw [if_neg (h p (by simp)), ih (fun q hq => h q (by simp [hq]))]
theorem up_vals_none {l1 : List (Int × WRec)} {k : Int} (h : ∀ p ∈ l1, p.1 ≠ k) (v : Value) : up (vals l1) k v = vals l1 ++ [(k, v)] := by
  induction l1 with
  | nil => simp [vals, up]
  | cons p l1 ih =>
    simp only [vals, List.map_cons, up, List.cons_append] at ih ⊢
    rw [if_neg (h p (by simp)), ih (fun q hq => h q (by simp [hq]))]
theorem absW_upd {l1 l2 : List (Int × WRec)} {k : Int} {R R' : WRec} (h : ∀ p ∈ l1, p.1 ≠ k) : absW (l1 ++ (k, R') :: l2) = upG (absW (l1 ++ (k, R) :: l2)) k (absE R'.el) := by
  induction l1 with
  | nil => simp [absW, upG]
  | cons p l1 ih =>
    simp only [absW, List.cons_append, List.map_cons, upG] at ih ⊢
    rw [if_neg (h p (by simp)), ih (fun q hq => h q (by simp [hq]))]
theorem absW_fresh {recs : List (Int × WRec)} {k : Int} {R : WRec} (h : ∀ p ∈ recs, p.1 ≠ k) : absW (recs ++ [(k, R)]) = upG (absW recs) k (absE R.el) := by
  induction recs with
  | nil => rfl
  | cons p recs ih =>
    simp only [absW, List.cons_append, List.map_cons, upG] at ih ⊢
    rw [if_neg (h p (by simp)), ih (fun q hq => h q (by simp [hq]))]
theorem absW_lk {l1 l2 : List (Int × WRec)} {k : Int} {R : WRec} (h : ∀ p ∈ l1, p.1 ≠ k) : lkG (absW (l1 ++ (k, R) :: l2)) k = some (absE R.el) := by
  induction l1 with
  | nil => simp [absW, lkG]
  | cons p l1 ih =>
    simp only [absW, List.cons_append, List.map_cons, lkG] at ih ⊢
    rw [if_neg (h p (by simp)), ih (fun q hq => h q (by simp [hq]))]
theorem absW_lk_none {recs : List (Int × WRec)} {k : Int} (h : ∀ p ∈ recs, p.1 ≠ k) : lkG (absW recs) k = none := by
  induction recs with
  | nil => rfl
  | cons p recs ih =>
    simp only [absW, List.map_cons, lkG] at ih ⊢
    rw [if_neg (h p (by simp)), ih (fun q hq => h q (by simp [hq]))]

theorem WRecAt.kept {B : Nat} {w w' : World} {R : WRec} (h : WRecAt B w R) (k1 : ∀ g, R.v.ownBlock = some g → w'.heap[g]? = w.heap[g]?) (k2 : ∀ e ∈ R.el, ∀ g, e.pv.ownBlock = some g → w'.heap[g]? = w.heap[g]?) : WRecAt B w' R :=
  ⟨owns_kept h.1 k1, fun e he => owns_kept (h.2 e he) (k2 e he)⟩
theorem WRecAt.grow {B : Nat} {w w' : World} {R : WRec} (h : WRecAt B w R) (k : Below w.heap.size w w') : WRecAt B w' R :=
  h.kept (fun g hg => k.block g (owns_lt h.1 hg)) (fun e he g hg => k.block g (owns_lt (h.2 e he) hg))

section
variable {B : Nat} {w0 w w' : World} {mb : Nat} {recs : List (Int × WRec)}
theorem WbAt.grow (h : WbAt B w0 w mb recs) (k : Below w.heap.size w w') : WbAt B w0 w' mb recs :=
  ⟨h.map.kept (k.block _ h.map.lt), fun p hp => (h.each p hp).grow k, h.outsN, h.insN, h.keys, h.mbB, h.bel.trans (k.mono (Nat.le_trans h.mbB (Nat.le_of_lt h.map.lt)))⟩
theorem WbAt.hit (h : WbAt B w0 w mb recs) {k : Int} {v : Value} (hl : lk (vals recs) k = some v) : ∃ l1 R l2, recs = l1 ++ (k, R) :: l2 ∧ v = R.v ∧ (∀ p ∈ l1, p.1 ≠ k) ∧ WMid B w0 w mb (vals recs) k R l1 l2 := by
  obtain ⟨l1, R, l2, rfl, h2, h3⟩ := vals_split hl
  refine ⟨l1, R, l2, rfl, h2, h3, h.map, fun v => ?_, fun p hp => h.each p (by rcases hp with hp | hp <;> simp [hp]), h.each (k, R) (by simp), h.outsN, h.insN, h.keys, h.mbB, h.bel⟩
  have : vals (l1 ++ (k, R) :: l2) = vals l1 ++ (k, R.v) :: vals l2 := by simp [vals]
  rw [this]
  exact up_vals h3 v
theorem WbAt.miss (h : WbAt B w0 w mb recs) {k : Int} (hl : lk (vals recs) k = none) : (∀ p ∈ recs, p.1 ≠ k) ∧ WMid B w0 w mb (vals recs) k ⟨.slice none 0 0, []⟩ recs [] := by
  have hk := vals_none hl
  refine ⟨hk, h.map, fun v => ?_, fun p hp => h.each p (by rcases hp with hp | hp; exact hp; simp at hp), ⟨World.ownsRow_nil _ _ _ _, fun e he => by simp at he⟩, ?_, ?_, ?_, h.mbB, h.bel⟩
  · rw [up_vals_none hk]; rfl
  · have : outs (recs ++ [(k, ⟨.slice none 0 0, []⟩)]) = outs recs := by simp [outs, Value.ownBlock]
    rw [this]; exact h.outsN
  · have : inns (recs ++ [(k, ⟨.slice none 0 0, []⟩)]) = inns recs := by simp [inns, elIns]
    rw [this]; exact h.insN
  · rw [List.map_append, List.nodup_append]
    refine ⟨h.keys, by simp, fun a ha b hb => ?_⟩
    simp at hb
    subst hb
    obtain ⟨p, hp, rfl⟩ := List.mem_map.1 ha
    exact hk p hp
end

theorem mem_elIns {l : List WEl} {g : Nat} (h : g ∈ elIns l) : ∃ e ∈ l, e.pv.ownBlock = some g := by
  obtain ⟨e, he, hg⟩ := List.mem_flatMap.1 h
  exact ⟨e, he, by simpa using hg⟩
theorem elIns_mem {l : List WEl} {e : WEl} (he : e ∈ l) {g : Nat} (hg : e.pv.ownBlock = some g) : g ∈ elIns l := List.mem_flatMap.2 ⟨e, he, by simp [hg]⟩
theorem mem_outs {l : List (Int × WRec)} {p : Int × WRec} (hp : p ∈ l) {g : Nat} (hg : p.2.v.ownBlock = some g) : g ∈ outs l := List.mem_flatMap.2 ⟨p, hp, by simp [hg]⟩
theorem mem_inns {l : List (Int × WRec)} {p : Int × WRec} (hp : p ∈ l) {g : Nat} (hg : g ∈ elIns p.2.el) : g ∈ inns l := List.mem_flatMap.2 ⟨p, hp, hg⟩

section
variable {B : Nat} {w0 w w' : World} {mb : Nat} {L : List (Int × Value)} {k : Int} {R : WRec} {l1 l2 : List (Int × WRec)}
theorem WMid.grow (h : WMid B w0 w mb L k R l1 l2) (kk : Below w.heap.size w w') : WMid B w0 w' mb L k R l1 l2 :=
  ⟨h.map.kept (kk.block _ h.map.lt), h.upd, fun p hp => (h.each p hp).grow kk, h.own.grow kk, h.outsN, h.insN, h.keys, h.mbB, h.bel.trans (kk.mono (Nat.le_trans h.mbB (Nat.le_of_lt h.map.lt)))⟩
theorem WMid.outs_lt (h : WMid B w0 w mb L k R l1 l2) : ∀ g, (g ∈ outs l1 ∨ g ∈ outs l2) → g < w.heap.size := by
  intro g hg
  have : ∃ p, (p ∈ l1 ∨ p ∈ l2) ∧ p.2.v.ownBlock = some g := by
    rcases hg with hg | hg
    · obtain ⟨p, hp, e⟩ := List.mem_flatMap.1 hg; exact ⟨p, .inl hp, by simpa using e⟩
    · obtain ⟨p, hp, e⟩ := List.mem_flatMap.1 hg; exact ⟨p, .inr hp, by simpa using e⟩
  obtain ⟨p, hp, e⟩ := this
  exact owns_lt (h.each p hp).1 e
theorem WMid.inns_lt (h : WMid B w0 w mb L k R l1 l2) : ∀ g, (g ∈ inns l1 ∨ g ∈ inns l2) → g < w.heap.size := by
  intro g hg
  have : ∃ p, (p ∈ l1 ∨ p ∈ l2) ∧ g ∈ elIns p.2.el := by
    rcases hg with hg | hg
    · obtain ⟨p, hp, e⟩ := List.mem_flatMap.1 hg; exact ⟨p, .inl hp, e⟩
    · obtain ⟨p, hp, e⟩ := List.mem_flatMap.1 hg; exact ⟨p, .inr hp, e⟩
  obtain ⟨p, hp, e⟩ := this
  obtain ⟨e', he', hg'⟩ := mem_elIns e
  exact owns_lt ((h.each p hp).2 e' he') hg'
theorem WMid.turn (h : WMid B w0 w mb L k R l1 l2) (R' : WRec) (x : Option Nat) (hR : WRecAt B w' R') (same : ∀ b, b < w.heap.size → R.v.ownBlock ≠ some b → x ≠ some b → w'.heap[b]? = w.heap[b]?)
    (hx : ∀ b, x = some b → b ∈ elIns R.el) (hout : R'.v.ownBlock = R.v.ownBlock ∨ ∃ g, R'.v.ownBlock = some g ∧ w.heap.size ≤ g)
    (hin : ∃ A y y', elIns R.el = A ++ y ∧ elIns R'.el = A ++ y' ∧ (y' = y ∨ ∃ g, y' = [g] ∧ w.heap.size ≤ g)) (hbel : Below B w0 w') : WMid B w0 w' mb L k R' l1 l2 := by
  have eO : ∀ Q : WRec, outs (l1 ++ (k, Q) :: l2) = outs l1 ++ (Q.v.ownBlock.toList ++ outs l2) := fun Q => by simp [outs]
  have eI : ∀ Q : WRec, inns (l1 ++ (k, Q) :: l2) = inns l1 ++ (elIns Q.el ++ inns l2) := fun Q => by simp [inns]
  have nO := h.outsN
  have nI := h.insN
  rw [eO] at nO
  rw [eI] at nI
  obtain ⟨o1, o2, o3⟩ := List.nodup_append.1 nO
  obtain ⟨o4, o5, o6⟩ := List.nodup_append.1 o2
  obtain ⟨i1, i2, i3⟩ := List.nodup_append.1 nI
  obtain ⟨i4, i5, i6⟩ := List.nodup_append.1 i2
  have xe : ∀ b, x = some b → ∃ e ∈ R.el, e.pv.ownBlock = some b := fun b hb => mem_elIns (hx b hb)
  refine ⟨h.map.kept (same _ h.map.lt (fun e => owns_ne_map h.own.1 h.map e rfl) (fun e => ?_)), h.upd, fun p hp => (h.each p hp).kept (fun g hg => same g (owns_lt (h.each p hp).1 hg) (fun e => ?_) (fun e => ?_)) (fun e' he' g hg => same g (owns_lt ((h.each p hp).2 e' he') hg) (fun e => ?_) (fun e => ?_)), hR, ?_, ?_, ?_, h.mbB, hbel⟩
  · obtain ⟨e1, he1, hg1⟩ := xe _ e
    exact owns_ne_map (h.own.2 e1 he1) h.map hg1 rfl
  · rcases hp with hp | hp
    · exact o3 g (mem_outs hp hg) g (List.mem_append_left _ (by simp [e])) rfl
    · exact o6 g (by simp [e]) g (mem_outs hp hg) rfl
  · obtain ⟨e1, he1, hg1⟩ := xe _ e
    exact owns_ne (h.own.2 e1 he1) (h.each p hp).1 (by decide) hg1 hg rfl
  · exact owns_ne h.own.1 ((h.each p hp).2 e' he') (by decide) e hg rfl
  · have hm := hx g e
    rcases hp with hp | hp
    · exact i3 g (mem_inns hp (elIns_mem he' hg)) g (List.mem_append_left _ hm) rfl
    · exact i6 g hm g (mem_inns hp (elIns_mem he' hg)) rfl
  · rw [eO]
    refine nodup_mid nO ?_
    rcases hout with e | ⟨g, e, hg⟩
    · exact .inl (by rw [e])
    · exact .inr ⟨g, by simp [e], fun hA => by have := h.outs_lt g (.inl hA); omega, fun hB => by have := h.outs_lt g (.inr hB); omega⟩
  · obtain ⟨A, y, y', e1, e2, e3⟩ := hin
    rw [eI, e2]
    rw [e1] at nI
    have nI' : ((inns l1 ++ A) ++ (y ++ inns l2)).Nodup := by simpa [List.append_assoc] using nI
    have hA : ∀ g ∈ A, g < w.heap.size := fun g hg => by
      obtain ⟨e', he', hg'⟩ := mem_elIns (l := R.el) (g := g) (by rw [e1]; exact List.mem_append_left _ hg)
      exact owns_lt (h.own.2 e' he') hg'
    have := nodup_mid (y := y') nI' (by
      rcases e3 with e | ⟨g, e, hg⟩
      · exact .inl e
      · refine .inr ⟨g, e, fun hm => ?_, fun hB => by have := h.inns_lt g (.inr hB); omega⟩
        rcases List.mem_append.1 hm with hm | hm
        · have := h.inns_lt g (.inl hm); omega
        · have := hA g hm; omega)
    simpa [List.append_assoc] using this
  · have := h.keys
    simpa using this
theorem elCells_snoc (l : List WEl) (e : WEl) : elCells (l ++ [e]) = elCells l ++ [.int .i64 e.ses, e.pv] := by simp [elCells]
theorem elCells_length (l : List WEl) : (elCells l).length = l.length * 2 := by
  induction l with
  | nil => rfl
  | cons p ps ih => simp only [elCells, List.flatMap_cons, List.length_append, List.length_cons, List.length_nil] at ih ⊢; omega
/-- A new, empty element at the end. -/
theorem WMid.push (h : WMid B w0 w mb L k R l1 l2) {W w1 : World} (hW : Below w.heap.size w W) {g cap : Nat} {s : Int}
    (h1 : w1.ownsRow B 102 2 (.slice (some ⟨g, 0, none⟩) (R.el.length + 1) cap) (R.el.length + 1) (elCells R.el ++ [.int .i64 s, .slice none 0 0]))
    (hg : W.grownBy w1 R.v.ownBlock) (hat : R.v.ownBlock = some g ∨ g = W.heap.size) :
    WMid B w0 w1 mb L k ⟨.slice (some ⟨g, 0, none⟩) (R.el.length + 1) cap, R.el ++ [⟨s, .slice none 0 0, []⟩]⟩ l1 l2 := by
  have h2 := h.grow hW
  have hBW : B ≤ W.heap.size := Nat.le_trans h2.mbB (Nat.le_of_lt h2.map.lt)
  have same : ∀ b, b < W.heap.size → R.v.ownBlock ≠ some b → w1.heap[b]? = W.heap[b]? := fun b hb hn => hg.block b hb (fun e => hn e.symm)
  refine h2.turn ⟨.slice (some ⟨g, 0, none⟩) (R.el.length + 1) cap, R.el ++ [⟨s, .slice none 0 0, []⟩]⟩ none ⟨?_, fun e he => ?_⟩ (fun b hb hn _ => same b hb hn) (fun b hb => by cases hb) ?_ ⟨elIns R.el, [], [], by simp, by simp [elIns, Value.ownBlock], .inl rfl⟩ (h2.bel.grown hg hBW (fun b hb => owns_base h2.own.1 hb))
  · unfold OOwn
    rw [elCells_snoc, List.length_append]
    exact h1
  · rcases List.mem_append.1 he with he | he
    · exact owns_kept (h2.own.2 e he) (fun b hb => same b (owns_lt (h2.own.2 e he) hb) (fun e2 => owns_ne h2.own.1 (h2.own.2 e he) (by decide) e2 hb rfl))
    · simp at he; subst he; exact World.ownsRow_nil _ _ _ _
  · rcases hat with e | e
    · exact .inl (by rw [e]; rfl)
    · exact .inr ⟨g, rfl, by omega⟩
/-- A place at the end of the last element. -/
theorem WMid.place {gv capv : Nat} {els : List WEl} {s : Int} {pv : Value} {pl : List Int} (h : WMid B w0 w mb L k ⟨.slice (some ⟨gv, 0, none⟩) (els.length + 1) capv, els ++ [⟨s, pv, pl⟩]⟩ l1 l2) {W w1 : World} (hW : Below w.heap.size w W) {g cap : Nat} {p : Int}
    (h1 : w1.ownsRow B 21 1 (.slice (some ⟨g, 0, none⟩) (pl.length + 1) cap) (pl.length + 1) (pl.map (Value.int .i32) ++ [.int .i32 p])) (hg : W.grownBy w1 pv.ownBlock) (hat : pv.ownBlock = some g ∨ g = W.heap.size) :
    WMid B w0 (w1.setCell ⟨gv, els.length * 2 + 1, none⟩ (.slice (some ⟨g, 0, none⟩) (pl.length + 1) cap)) mb L k ⟨.slice (some ⟨gv, 0, none⟩) (els.length + 1) capv, els ++ [⟨s, .slice (some ⟨g, 0, none⟩) (pl.length + 1) cap, pl ++ [p]⟩]⟩ l1 l2 := by
  have h2 := h.grow hW
  have hBW : B ≤ W.heap.size := Nat.le_trans h2.mbB (Nat.le_of_lt h2.map.lt)
  have hlast : (⟨s, pv, pl⟩ : WEl) ∈ els ++ [⟨s, pv, pl⟩] := by simp
  have hpv := h2.own.2 _ hlast
  have same : ∀ b, b < W.heap.size → pv.ownBlock ≠ some b → w1.heap[b]? = W.heap[b]? := fun b hb hn => hg.block b hb (fun e => hn e.symm)
  have hgv : gv < W.heap.size := owns_lt h2.own.1 rfl
  have hgvpv : pv.ownBlock ≠ some gv := fun e => owns_ne h2.own.1 hpv (by decide) rfl e rfl
  have hne : ∀ b, b ≠ gv → (w1.setCell ⟨gv, els.length * 2 + 1, none⟩ (.slice (some ⟨g, 0, none⟩) (pl.length + 1) cap)).heap[b]? = w1.heap[b]? := fun b hb => Below.heap_setCell _ _ _ _ hb
  have hO1 : OOwn B w1 (.slice (some ⟨gv, 0, none⟩) (els.length + 1) capv) (els ++ [⟨s, pv, pl⟩]) := owns_kept h2.own.1 (fun b hb => by cases hb; exact same gv hgv hgvpv)
  have hggv : g ≠ gv := by
    rcases hat with e | e
    · exact fun e2 => hgvpv (e2 ▸ e)
    · omega
  refine h2.turn ⟨.slice (some ⟨gv, 0, none⟩) (els.length + 1) capv, els ++ [⟨s, .slice (some ⟨g, 0, none⟩) (pl.length + 1) cap, pl ++ [p]⟩]⟩ pv.ownBlock ⟨?_, fun e he => ?_⟩ (fun b hb hn hx => ?_) (fun b hb => elIns_mem hlast hb) (.inl rfl) ?_ ?_
  · have hset := owns_set (i := els.length * 2 + 1) hO1 rfl (.slice (some ⟨g, 0, none⟩) (pl.length + 1) cap)
    unfold OOwn
    have e1 : (elCells (els ++ [⟨s, pv, pl⟩])).set (els.length * 2 + 1) (.slice (some ⟨g, 0, none⟩) (pl.length + 1) cap) = elCells (els ++ [⟨s, .slice (some ⟨g, 0, none⟩) (pl.length + 1) cap, pl ++ [p]⟩]) := by
      rw [elCells_snoc, elCells_snoc, List.set_append_right _ _ (by rw [elCells_length]; omega), elCells_length]
      have : els.length * 2 + 1 - els.length * 2 = 1 := by omega
      rw [this]
      rfl
    rw [e1] at hset
    simpa using hset
  · rcases List.mem_append.1 he with he | he
    · have hm : e ∈ els ++ [⟨s, pv, pl⟩] := List.mem_append_left _ he
      have hpe := h2.own.2 e hm
      refine owns_kept hpe (fun b hb => ?_)
      have hbgv : b ≠ gv := fun e2 => owns_ne h2.own.1 hpe (by decide) rfl hb e2.symm
      rw [hne b hbgv]
      refine same b (owns_lt hpe hb) (fun e2 => ?_)
      -- two elements with one block
      have hN := h2.insN
      have eI : inns (l1 ++ (k, (⟨.slice (some ⟨gv, 0, none⟩) (els.length + 1) capv, els ++ [⟨s, pv, pl⟩]⟩ : WRec)) :: l2) = inns l1 ++ ((elIns els ++ pv.ownBlock.toList) ++ inns l2) := by simp [inns, elIns]
      rw [eI] at hN
      obtain ⟨_, n2, _⟩ := List.nodup_append.1 hN
      obtain ⟨n4, _, _⟩ := List.nodup_append.1 n2
      obtain ⟨_, _, n7⟩ := List.nodup_append.1 n4
      exact n7 b (elIns_mem he hb) b (by simp [e2]) rfl
    · simp at he
      subst he
      refine owns_kept (w := w1) ?_ (fun b hb => ?_)
      · show w1.ownsRow B 21 1 _ (pl ++ [p]).length ((pl ++ [p]).map (Value.int .i32))
        rw [List.map_append, List.length_append]
        exact h1
      · cases hb; exact hne g hggv
  · rw [hne b (fun e => hn (by rw [e]; rfl))]
    exact same b hb hx
  · refine ⟨elIns els, pv.ownBlock.toList, [g], by simp [elIns], by simp [elIns, Value.ownBlock], ?_⟩
    rcases hat with e | e
    · exact .inl (by simp [e])
    · exact .inr ⟨g, rfl, by omega⟩
  · have hBg : B ≤ gv := owns_base h2.own.1 rfl
    exact (h2.bel.grown hg hBW (fun b hb => owns_base hpv hb)).setCell (p := ⟨gv, els.length * 2 + 1, none⟩) hBg _
/-- The map takes the record. -/
theorem WMid.done (h : WMid B w0 w mb L k R l1 l2) (hm : MapAt ikey w' mb (up L k R.v)) (ht : Turned w w' mb) : WbAt B w0 w' mb (l1 ++ (k, R) :: l2) := by
  have e : ∀ b, b ≠ mb → w'.heap[b]? = w.heap[b]? := fun b hb => ht.block b hb
  have kept : ∀ Q : WRec, WRecAt B w Q → WRecAt B w' Q := fun Q hQ => hQ.kept (fun g hg => e g (owns_ne_map hQ.1 h.map hg)) (fun e' he' g hg => e g (owns_ne_map (hQ.2 e' he') h.map hg))
  refine ⟨?_, fun p hp => ?_, h.outsN, h.insN, h.keys, h.mbB, Turned.below h.bel h.mbB ht⟩
  · rw [h.upd] at hm
    have : vals (l1 ++ (k, R) :: l2) = vals l1 ++ (k, R.v) :: vals l2 := by simp [vals]
    rw [this]; exact hm
  · rcases List.mem_append.1 hp with hp | hp
    · exact kept _ (h.each p (.inl hp))
    · rcases List.mem_cons.1 hp with rfl | hp
      · exact kept _ h.own
      · exact kept _ (h.each p (.inr hp))
end
end Go.Proofs.Qxb6602646a
