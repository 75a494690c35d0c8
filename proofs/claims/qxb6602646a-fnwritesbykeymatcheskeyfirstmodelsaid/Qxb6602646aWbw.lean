/-
  writesByKey, walked.
-/
import Derived.Test.Qxb6602646aWbLaw
namespace Go.Proofs.Qxb6602646a
open Go.RowKit

theorem owns_row {B size n cap g : Nat} {w : World} {e : TypeId} {xs : List Value} (h : w.ownsRow B e size (.slice (some ⟨g, 0, none⟩) n cap) n xs) : ∃ f, w.rowIs g e (cap * size) f ∧ xs.length ≤ cap * size ∧ cap ≤ maxLen ∧ ∀ i (hi : i < xs.length), f i = xs[i] := by
  rcases h.2 with ⟨h2, _⟩ | ⟨g', cap', cur, hv, _, hh, hn, hm, hs, ht⟩
  · cases h2
  · cases hv
    have hl := h.1
    have hle : xs.length ≤ cap * size := by
      rw [hl]; exact Nat.mul_le_mul_right _ hn
    refine ⟨fun i => cur[i]!, ⟨cur, hh, hs, fun i hi => by rw [← hs] at hi; simp [hi]⟩, hle, hm, fun i hi => ?_⟩
    have e1 : (cur.toList.take (n * size))[i]? = some xs[i] := by rw [ht]; simp [hi]
    rw [List.getElem?_take_of_lt (by omega)] at e1
    have e2 : cur[i]? = some xs[i] := by simpa using e1
    simp only [getElem!_def, e2]
theorem row_ne_owns {B size n : Nat} {w : World} {e t : TypeId} {v : Value} {xs : List Value} {b m g : Nat} {f : Nat → Value} (h : w.rowIs b t m f) (k : w.ownsRow B e size v n xs) (ht : t ≠ e) (hg : v.ownBlock = some g) : b ≠ g := by
  rintro rfl
  obtain ⟨c, h1, _⟩ := h
  obtain ⟨cur, h2⟩ := owns_block k hg
  rw [h1] at h2
  cases h2
  exact ht rfl
def opcW (o : POp) : Nat → Value
  | 0 => .int .u8 o.kind
  | 1 => .int .i64 o.key
  | _ => .int .i64 o.val
def LenW (N : Nat) (recs : List (Int × WRec)) : Prop := ∀ p ∈ recs, p.2.el.length ≤ N ∧ ∀ e ∈ p.2.el, e.pl.length ≤ N
def LenR (N : Nat) (R : WRec) : Prop := R.el.length ≤ N ∧ ∀ e ∈ R.el, e.pl.length ≤ N
/-- What the body's steps hand on. -/
structure WIn (B : Nat) (w0 w : World) (mb : Nat) (L : List (Int × Value)) (A : List (Int × List (Int × List Int))) (N : Nat) (o : POp) (bx : Nat) (R : WRec) (l1 l2 : List (Int × WRec)) : Prop where
  mid : WMid B w0 w mb L o.key R l1 l2
  abs : ∀ Q : WRec, absW (l1 ++ (o.key, Q) :: l2) = upG A o.key (absE Q.el)
  lens : LenW N l1 ∧ LenW N l2
  box : w.rowIs bx 92 3 (opcW o)
theorem WbAt.find {B : Nat} {w0 w : World} {mb : Nat} {recs : List (Int × WRec)} {N : Nat} {o : POp} {bx : Nat} (h : WbAt B w0 w mb recs) (hl : LenW N recs) (hb : w.rowIs bx 92 3 (opcW o)) :
    ∃ R l1 l2 ra rc, (lk (vals recs) o.key).getD (.slice none 0 0) = .slice ra R.el.length rc ∧ R.v = .slice ra R.el.length rc ∧ WIn B w0 w mb (vals recs) (absW recs) N o bx R l1 l2 ∧ (lkG (absW recs) o.key).getD [] = absE R.el ∧ LenR N R := by
  cases hk : lk (vals recs) o.key with
  | none =>
    obtain ⟨h1, h2⟩ := h.miss hk
    refine ⟨⟨.slice none 0 0, []⟩, recs, [], none, 0, rfl, rfl, ⟨h2, fun Q => absW_fresh h1, ⟨hl, fun p hp => by simp at hp⟩, hb⟩, ?_, Nat.zero_le _, fun e he => by simp at he⟩
    rw [absW_lk_none h1]; rfl
  | some v =>
    obtain ⟨l1, R, l2, rfl, h2, h3, h4⟩ := h.hit hk
    have hown := h4.own.1
    obtain ⟨ra, rc, hR⟩ : ∃ ra rc, R.v = .slice ra R.el.length rc := by
      rcases hown.2 with ⟨e1, e2⟩ | ⟨g, cap, cur, e1, _⟩
      · exact ⟨none, 0, by rw [e1, e2]⟩
      · exact ⟨_, cap, e1⟩
    refine ⟨R, l1, l2, ra, rc, ?_, hR, ⟨h4, fun Q => absW_upd h3, ⟨fun p hp => hl p (by simp [hp]), fun p hp => hl p (by simp [hp])⟩, hb⟩, ?_, hl (o.key, R) (by simp)⟩
    · rw [h2]; exact hR
    · rw [absW_lk h3]; rfl
section
variable {B : Nat} {w0 w w' : World} {mb : Nat} {L : List (Int × Value)} {A : List (Int × List (Int × List Int))} {N : Nat} {o : POp} {bx : Nat} {R : WRec} {l1 l2 : List (Int × WRec)}
theorem WIn.grow (h : WIn B w0 w mb L A N o bx R l1 l2) (k : Below w.heap.size w w') : WIn B w0 w' mb L A N o bx R l1 l2 := ⟨h.mid.grow k, h.abs, h.lens, h.box.of_block (k.block _ h.box.lt)⟩
theorem WIn.push (h : WIn B w0 w mb L A N o bx R l1 l2) {W w1 : World} (hW : Below w.heap.size w W) {g cap : Nat} {s : Int}
    (h1 : w1.ownsRow B 102 2 (.slice (some ⟨g, 0, none⟩) (R.el.length + 1) cap) (R.el.length + 1) (elCells R.el ++ [.int .i64 s, .slice none 0 0]))
    (hg : W.grownBy w1 R.v.ownBlock) (hat : R.v.ownBlock = some g ∨ g = W.heap.size) :
    WIn B w0 w1 mb L A N o bx ⟨.slice (some ⟨g, 0, none⟩) (R.el.length + 1) cap, R.el ++ [⟨s, .slice none 0 0, []⟩]⟩ l1 l2 := by
  have h2 := h.grow hW
  exact ⟨h.mid.push hW h1 hg hat, h.abs, h.lens, h2.box.of_block (hg.block bx h2.box.lt (fun e => row_ne_owns h2.box h2.mid.own.1 (by decide) e.symm rfl))⟩
theorem WIn.place {gv capv : Nat} {els : List WEl} {s : Int} {pv : Value} {pl : List Int} (h : WIn B w0 w mb L A N o bx ⟨.slice (some ⟨gv, 0, none⟩) (els.length + 1) capv, els ++ [⟨s, pv, pl⟩]⟩ l1 l2) {W w1 : World} (hW : Below w.heap.size w W) {g cap : Nat} {p : Int}
    (h1 : w1.ownsRow B 21 1 (.slice (some ⟨g, 0, none⟩) (pl.length + 1) cap) (pl.length + 1) (pl.map (Value.int .i32) ++ [.int .i32 p])) (hg : W.grownBy w1 pv.ownBlock) (hat : pv.ownBlock = some g ∨ g = W.heap.size) :
    WIn B w0 (w1.setCell ⟨gv, els.length * 2 + 1, none⟩ (.slice (some ⟨g, 0, none⟩) (pl.length + 1) cap)) mb L A N o bx ⟨.slice (some ⟨gv, 0, none⟩) (els.length + 1) capv, els ++ [⟨s, .slice (some ⟨g, 0, none⟩) (pl.length + 1) cap, pl ++ [p]⟩]⟩ l1 l2 := by
  have h2 := h.grow hW
  refine ⟨h.mid.place hW h1 hg hat, h.abs, h.lens, h2.box.of_block ?_⟩
  have e1 : bx ≠ gv := row_ne_owns h2.box h2.mid.own.1 (by decide) rfl
  rw [Below.heap_setCell _ _ _ _ e1]
  exact hg.block bx h2.box.lt (fun e => row_ne_owns h2.box (h2.mid.own.2 ⟨s, pv, pl⟩ (by simp)) (by decide) e.symm rfl)
/-- The cells of the last element. -/
theorem WIn.last {gv capv : Nat} {els : List WEl} {s : Int} {pv : Value} {pl : List Int} (h : WIn B w0 w mb L A N o bx ⟨.slice (some ⟨gv, 0, none⟩) (els.length + 1) capv, els ++ [⟨s, pv, pl⟩]⟩ l1 l2) :
    gv < w.heap.size ∧ w.cell? ⟨gv, els.length * 2, none⟩ = some (.int .i64 s) ∧ w.cell? ⟨gv, els.length * 2 + 1, none⟩ = some pv ∧ w.frozen? ⟨gv, els.length * 2 + 1, none⟩ = false ∧ POwn B w pv pl ∧ els.length + 1 ≤ capv := by
  have ho : w.ownsRow B 102 2 (.slice (some ⟨gv, 0, none⟩) (els.length + 1) capv) (els.length + 1) (elCells (els ++ [⟨s, pv, pl⟩])) := by
    have := h.mid.own.1
    unfold OOwn at this
    simpa using this
  obtain ⟨f, hf, hle, hm, hfi⟩ := owns_row ho
  have hlen : (elCells (els ++ [⟨s, pv, pl⟩])).length = els.length * 2 + 2 := by rw [elCells_length, List.length_append]; simp; omega
  rw [hlen] at hle
  have e0 : (elCells (els ++ [⟨s, pv, pl⟩]))[els.length * 2]? = some (.int .i64 s) := by
    rw [elCells_snoc, List.getElem?_append_right (by rw [elCells_length]; omega), elCells_length]; simp
  have e1 : (elCells (els ++ [⟨s, pv, pl⟩]))[els.length * 2 + 1]? = some pv := by
    rw [elCells_snoc, List.getElem?_append_right (by rw [elCells_length]; omega), elCells_length]
    have : els.length * 2 + 1 - els.length * 2 = 1 := by omega
    rw [this]; rfl
  have a0 := hfi (els.length * 2) (by omega)
  have a1 := hfi (els.length * 2 + 1) (by omega)
  rw [List.getElem?_eq_getElem (by omega)] at e0 e1
  rw [Option.some.inj e0] at a0
  rw [Option.some.inj e1] at a1
  refine ⟨hf.lt, ?_, ?_, hf.frozen _, h.mid.own.2 ⟨s, pv, pl⟩ (by simp), by omega⟩
  · rw [hf.cell (show els.length * 2 < capv * 2 by omega), a0]
  · rw [hf.cell (show els.length * 2 + 1 < capv * 2 by omega), a1]
end
def WbIn (B : Nat) (w : World) (mb : Nat) (F : List Ev) (wr : World) : Prop := ∃ recs, WbAt B w wr mb recs ∧ absW recs = wbOf F ∧ LenW F.length recs
theorem LenW.mono {N M : Nat} {recs : List (Int × WRec)} (h : LenW N recs) (k : N ≤ M) : LenW M recs := fun p hp => ⟨Nat.le_trans (h p hp).1 k, fun e he => Nat.le_trans ((h p hp).2 e he) k⟩
/-- The round's end. -/
theorem WIn.done {B : Nat} {w0 w w' : World} {mb : Nat} {L : List (Int × Value)} {F : List Ev} {o : POp} {bx : Nat} {R R0 : WRec} {l1 l2 : List (Int × WRec)} {s p : Nat} {recs : List (Int × WRec)}
    (h : WIn B w0 w mb L (absW recs) F.length o bx R l1 l2) (hA : absW recs = wbOf F) (h0 : (lkG (absW recs) o.key).getD [] = absE R0.el) (hk : o.kind = 1) (hsw : swAdd s p (absE R0.el) = absE R.el) (hlen : LenR (F.length + 1) R)
    (hm : MapAt ikey w' mb (up L o.key R.v)) (ht : Turned w w' mb) : WbIn B w0 mb (F ++ [⟨s, p, o⟩]) w' := by
  refine ⟨l1 ++ (o.key, R) :: l2, h.mid.done hm ht, ?_, ?_⟩
  · rw [wbOf_snoc, h.abs R, ← hA]
    unfold evStep
    rw [if_pos hk, h0, hsw]
  · intro q hq
    have e : (F ++ [(⟨s, p, o⟩ : Ev)]).length = F.length + 1 := by simp
    rw [e]
    rcases List.mem_append.1 hq with hq | hq
    · exact h.lens.1.mono (Nat.le_succ _) q hq
    · rcases List.mem_cons.1 hq with rfl | hq
      · exact hlen
      · exact h.lens.2.mono (Nat.le_succ _) q hq
theorem WbIn.skip {B : Nat} {w wr w' : World} {mb : Nat} {F : List Ev} {s p : Nat} {o : POp} (h : WbIn B w mb F wr) (hk : o.kind ≠ 1) (k : Below wr.heap.size wr w') : WbIn B w mb (F ++ [⟨s, p, o⟩]) w' := by
  obtain ⟨recs, h1, h2, h3⟩ := h
  refine ⟨recs, h1.grow k, ?_, h3.mono (by simp)⟩
  rw [wbOf_snoc, h2]
  unfold evStep
  rw [if_neg hk]
theorem WbIn.grow {B : Nat} {w wr w' : World} {mb : Nat} {F : List Ev} (h : WbIn B w mb F wr) (k : Below wr.heap.size wr w') : WbIn B w mb F w' := by
  obtain ⟨recs, h1, h2, h3⟩ := h
  exact ⟨recs, h1.grow k, h2, h3⟩
end Go.Proofs.Qxb6602646a
