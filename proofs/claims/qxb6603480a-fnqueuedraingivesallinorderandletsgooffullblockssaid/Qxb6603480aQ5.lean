/-
  ZZQueuePop (11), ZZNewQueue (10).
-/
import Derived.Test.Qxb6603480aQ4
namespace Go.Proofs.Qxb6603480a
open Go.RowKit

theorem QEx.grow {B0 : Nat} {w0 w w' : World} {qb : Nat} {B : List (List (Int × Int))} {hd : Int} {sp : Nat} (h : QEx B0 w0 w qb B hd sp) (k : Below w.heap.size w w') : QEx B0 w0 w' qb B hd sp := by
  obtain ⟨a, cap, sa, sc, hQ⟩ := h
  exact ⟨a, cap, sa, sc, hQ.grow k⟩
def rPost (v : Value) (R : World → Prop) (e : Ending) (w' : World) : Prop := e = .returned v ∧ R w'
set_option maxHeartbeats 400000 in
theorem pop11 {qb : Nat} {x1 x2 : Int} {ok : Bool} {w : World} {R : World → Prop} (h : Calls Try.prog 15 #[.pointer (some ⟨qb, 0, none⟩)] w (rPost (.tuple #[.agg #[.int .u32 x1, .int .u32 x2], .bool ok]) R)) (hg : ∀ w1 w2, R w1 → Below w1.heap.size w1 w2 → R w2) :
    Calls Try.prog 11 #[.pointer (some ⟨qb, 0, none⟩)] w (rPost (.tuple #[.int .u32 x1, .int .u32 x2, .bool ok]) R) := by
  have HC := hide (fun w' (e : w' = w) => e ▸ h)
  have HG := hide hg
  clear h hg
  go_enter Try.func11, Try.ntmps11
  go_wp2_with (go_at_call 15; refine (HC.out _ rfl).mono ?_; rintro e w1 ⟨rfl, h1⟩; have HR := hide h1; clear h1)
  go_quiet (fail)
  go_wp2
  refine bodyPost_ret (v := .tuple #[.int .u32 x1, .int .u32 x2, .bool ok]) (by simp [results, Try.results11, go_sem]) rfl ⟨rfl, ?_⟩
  exact HG.out _ _ HR.out (below_drewN ((Below.refl _ _).alloc (Nat.le_refl _) _) _)
theorem pop11_none {B0 : Nat} {w0 w : World} {qb : Nat} {B : List (List (Int × Int))} {hd : Int} {sp : Nat} (h : QEx B0 w0 w qb B hd sp) (he : B.length = 0 ∨ ∃ h0 : 0 < B.length, hd = B[0].length) :
    Calls Try.prog 11 #[.pointer (some ⟨qb, 0, none⟩)] w (rPost (.tuple #[.int .u32 0, .int .u32 0, .bool false]) fun w' => QEx B0 w0 w' qb B hd sp) :=
  pop11 ((pop15_none h he).mono fun _ _ ⟨h1, h2⟩ => ⟨h1, h2⟩) (fun _ _ h k => h.grow k)
theorem pop11_some {B0 : Nat} {w0 w : World} {qb : Nat} {b0 : List (Int × Int)} {R : List (List (Int × Int))} {h sp : Nat} (hq : QEx B0 w0 w qb (b0 :: R) h sp) (hh : h < b0.length) (h4 : h < 4096) (hb : b0.length ≤ 4096) (hl : R.length ≤ 4096) :
    Calls Try.prog 11 #[.pointer (some ⟨qb, 0, none⟩)] w (rPost (.tuple #[.int .u32 b0[h].1, .int .u32 b0[h].2, .bool true]) fun w' => QEx B0 w0 w' qb (nextB (b0 :: R) h) (nextH h) (nextS h sp)) :=
  pop11 ((pop15_some hq hh h4 hb hl).mono fun _ _ ⟨h1, h2⟩ => ⟨h1, h2⟩) (fun _ _ h k => h.grow k)

/-! ### ZZNewQueue -/
theorem info38 : (Try.prog.info? 38).map (fun i => (i.zero, i.size, i.bytes)) = some (some (.slice none 0 0), 1, 24) := by kernel_rfl
theorem info42 : (Try.prog.info? 42).map (fun i => (i.zero, i.size, i.bytes)) = some (some (.agg #[.int .u32 0, .int .u32 0]), 2, 8) := by kernel_rfl
def vcf (v : Value) : List Value := [v]
theorem vcf_len (v : Value) : (vcf v).length = 1 := rfl
theorem vcf_flat (l : List Value) : l.flatMap vcf = l := by
  induction l with
  | nil => rfl
  | cons a l ih => rw [List.flatMap_cons, ih]; rfl
/-- Row i of the two columns, as pairs. -/
def prow (O C : List (List Int)) (i : Nat) : List (Int × Int) := (O.getD i []).zip (C.getD i [])
def pairs (O C : List (List Int)) : List (List (Int × Int)) := (List.range O.length).map (prow O C)
theorem pairs_len (O C : List (List Int)) : (pairs O C).length = O.length := by simp [pairs]
theorem pairs_at (O C : List (List Int)) (i : Nat) (h : i < (pairs O C).length) : (pairs O C)[i] = prow O C i := by simp [pairs]
/-- k blocks are laid: vs their values. -/
structure NQ (O C : List (List Int)) (hd : Int) (w : World) (k : Nat) (bv : Value) (vs : List Value) (wr : World) : Prop where
  row : wr.rowIs w.heap.size 40 3 (qc bv (.int .i64 hd) (.slice none 0 0))
  own : wr.ownsRow (w.heap.size + 1) 38 1 bv vs.length vs
  len : vs.length = k
  each : ∀ i (h : i < vs.length), ∃ b, vs[i] = .slice (some ⟨b, 0, none⟩) (prow O C i).length (prow O C i).length ∧ BlkAt wr b (prow O C i) ∧ w.heap.size < b ∧ bv.ownBlock ≠ some b
  bel : Below w.heap.size w wr
/-- One block being laid. -/
def NB (l : List (Int × Int)) (wr : World) (m : Nat) (wi : World) : Prop :=
  Below wr.heap.size wr wi ∧ ∃ f, wi.rowIs wr.heap.size 42 (l.length * 2) f ∧ ∀ j (h : j < l.length), j < m → f (j * 2) = .int .u32 l[j].1 ∧ f (j * 2 + 1) = .int .u32 l[j].2
theorem NB.step {l : List (Int × Int)} {wr wi : World} {m : Nat} (h : NB l wr m wi) (hm : m < l.length) : NB l wr (m + 1) ((wi.setCell ⟨wr.heap.size, m * 2, none⟩ (.int .u32 l[m].1)).setCell ⟨wr.heap.size, m * 2 + 1, none⟩ (.int .u32 l[m].2)) := by
  obtain ⟨h1, f, h2, h3⟩ := h
  refine ⟨(h1.setCell (p := ⟨wr.heap.size, m * 2, none⟩) (by simp) _).setCell (p := ⟨wr.heap.size, m * 2 + 1, none⟩) (by simp) _, _, (h2.set (m * 2) _).set (m * 2 + 1) _, fun j hj hjm => ?_⟩
  by_cases e : j = m
  · subst e
    exact ⟨by rw [if_neg (by omega), if_pos rfl], by rw [if_pos rfl]⟩
  · obtain ⟨a1, a2⟩ := h3 j hj (by omega)
    exact ⟨by rw [if_neg (by omega), if_neg (by omega), a1], by rw [if_neg (by omega), if_neg (by omega), a2]⟩
theorem NB.drew {l : List (Int × Int)} {wr wi : World} {m : Nat} (h : NB l wr m wi) : NB l wr m wi.drew := ⟨h.1.drew, h.2⟩
theorem NB.blk {l : List (Int × Int)} {wr wi : World} (h : NB l wr l.length wi) : BlkAt wi wr.heap.size l := by
  obtain ⟨h1, f, h2, h3⟩ := h
  exact ⟨h2.lt, fun i hi => by
    obtain ⟨a1, a2⟩ := h3 i hi hi
    exact ⟨by rw [h2.cell (by omega), a1], by rw [h2.cell (by omega), a2]⟩⟩
theorem NQ.grow {O C : List (List Int)} {hd : Int} {w wr w' : World} {k : Nat} {bv : Value} {vs : List Value} (h : NQ O C hd w k bv vs wr) (q : Below wr.heap.size wr w') : NQ O C hd w k bv vs w' :=
  ⟨h.row.of_block (q.block _ h.row.lt), owns_kept h.own (fun g hg => q.block g (owns_lt h.own hg)), h.len, fun i hi => by
    obtain ⟨b, a1, a2, a3⟩ := h.each i hi
    exact ⟨b, a1, a2.kept q.size (q.block _ a2.1), a3⟩, h.bel.trans (q.mono h.bel.size)⟩
/-- The block's value is appended, and the queue takes the new slice. -/
theorem NQ.push {O C : List (List Int)} {hd : Int} {w wr W w1 : World} {k : Nat} {bv : Value} {vs : List Value} (h : NQ O C hd w k bv vs wr) (hW : Below wr.heap.size wr W) {g cap b : Nat} (hb : BlkAt W b (prow O C k)) (hbl : wr.heap.size ≤ b) (hbW : b + 1 < W.heap.size)
    (h1 : w1.ownsRow (w.heap.size + 1) 38 1 (.slice (some ⟨g, 0, none⟩) (vs.length + 1) cap) (vs.length + 1) (vs ++ [.slice (some ⟨b, 0, none⟩) (prow O C k).length (prow O C k).length]))
    (hg : W.grownBy w1 bv.ownBlock) (hat : bv.ownBlock = some g ∨ g = W.heap.size) :
    NQ O C hd w (k + 1) (.slice (some ⟨g, 0, none⟩) (vs.length + 1) cap) (vs ++ [.slice (some ⟨b, 0, none⟩) (prow O C k).length (prow O C k).length]) (w1.setCell ⟨w.heap.size, 0, none⟩ (.slice (some ⟨g, 0, none⟩) (vs.length + 1) cap)) := by
  have hQ := h.grow hW
  have hql := hQ.row.lt
  have hqn : bv.ownBlock ≠ some w.heap.size := fun e => by have := owns_base h.own e; omega
  have hbn : bv.ownBlock ≠ some b := fun e => by have := owns_lt h.own e; omega
  have same : ∀ x, x ≠ w.heap.size → (w1.setCell ⟨w.heap.size, 0, none⟩ (.slice (some ⟨g, 0, none⟩) (vs.length + 1) cap)).heap[x]? = w1.heap[x]? := fun x hx => Below.heap_setCell _ _ _ _ hx
  have hsz : (w1.setCell ⟨w.heap.size, 0, none⟩ (.slice (some ⟨g, 0, none⟩) (vs.length + 1) cap)).heap.size = w1.heap.size := by simp [World.setCell]
  have hbB : w.heap.size + 1 ≤ g := owns_base h1 rfl
  have hwr := h.bel.size
  have hwl := h.row.lt
  have ek := h.len
  subst ek
  have r1 : w1.rowIs w.heap.size 40 3 (qc bv (.int .i64 hd) (.slice none 0 0)) := hQ.row.of_block (hg.block _ hql (fun e => hqn e.symm))
  refine ⟨(r1.set 0 _).congr (fun i hi => ?_), ?_, by simp, fun i hi => ?_, (hQ.bel.grown hg (Nat.le_of_lt hql) (fun x hx => by have := owns_base h.own hx; omega)).setCell (p := ⟨w.heap.size, 0, none⟩) (by simp) _⟩
  · match i, hi with
    | 0, _ => rfl
    | 1, _ => rfl
    | 2, _ => rfl
  · have : (vs ++ [Value.slice (some ⟨b, 0, none⟩) (prow O C vs.length).length (prow O C vs.length).length]).length = vs.length + 1 := by simp
    rw [this]
    exact owns_kept h1 (fun x hx => by cases hx; exact same g (by omega))
  · by_cases e : i < vs.length
    · obtain ⟨b', a1, a2, a3, a4⟩ := hQ.each i e
      refine ⟨b', by rw [List.getElem_append_left e]; exact a1, a2.kept (by rw [hsz]; exact hg.size) ?_, a3, fun q => ?_⟩
      · rw [same b' (by omega)]
        exact hg.block b' a2.1 (fun q => a4 q.symm)
      · have hgb : g = b' := by cases q; rfl
        subst hgb
        rcases hat with q | q
        · exact a4 q
        · have := a2.1; omega
    · obtain rfl : i = vs.length := by simp at hi; omega
      refine ⟨b, by simp, ?_, by omega, fun q => ?_⟩
      · refine hb.kept (by rw [hsz]; exact hg.size) ?_
        rw [same b (by omega)]
        exact hg.block b hb.1 (fun q => hbn q.symm)
      · have hgb : g = b := by cases q; rfl
        rcases hat with q | q
        · exact hbn (hgb ▸ q)
        · omega
end Go.Proofs.Qxb6603480a
