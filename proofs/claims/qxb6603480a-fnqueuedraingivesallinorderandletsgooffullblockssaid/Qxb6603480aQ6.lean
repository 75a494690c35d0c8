/-
  ZZNewQueue (10), its walk.
-/
import Derived.Test.Qxb6603480aQ5
namespace Go.Proofs.Qxb6603480a
open Go.RowKit

theorem NQ.after {O C : List (List Int)} {hd : Int} {w wr W w1 : World} {k : Nat} {bv : Value} {vs : List Value} (h : NQ O C hd w k bv vs wr) (hW : Below wr.heap.size wr W) (hg : W.grownBy w1 bv.ownBlock) : w1.cell? ⟨w.heap.size, 0, none⟩ = some bv ∧ w1.frozen? ⟨w.heap.size, 0, none⟩ = false := by
  have hQ := h.grow hW
  have hqn : bv.ownBlock ≠ some w.heap.size := fun e => by have := owns_base h.own e; omega
  have r1 : w1.rowIs w.heap.size 40 3 (qc bv (.int .i64 hd) (.slice none 0 0)) := hQ.row.of_block (hg.block _ hQ.row.lt (fun e => hqn e.symm))
  exact ⟨r1.cell (show 0 < 3 by omega), r1.frozen 0⟩
theorem NQ.val {O C : List (List Int)} {hd : Int} {w wr : World} {k : Nat} {bv : Value} {vs : List Value} (h : NQ O C hd w k bv vs wr) : ∃ a c, bv = .slice a vs.length c := by
  rcases h.own.2 with ⟨rfl, h2⟩ | ⟨g, cap, cur, rfl, _⟩
  · exact ⟨none, 0, by rw [h2]⟩
  · exact ⟨_, cap, rfl⟩
theorem NQ.done {O C : List (List Int)} {hd : Int} {w wr : World} {bv : Value} {vs : List Value} (h : NQ O C hd w O.length bv vs wr) : QEx w.heap.size w wr w.heap.size (pairs O C) hd 0 := by
  have hl : vs.length = (pairs O C).length := by rw [h.len, pairs_len]
  rcases h.own.2 with ⟨e1, e2⟩ | ⟨g, cap, cur, e1, e2, _, e4, _⟩
  · refine ⟨none, 0, none, 0, ⟨?_, by omega, fun hp => by omega, Nat.le_refl _, h.bel⟩⟩
    have := h.row
    rw [e1] at this
    rw [← hl, e2]
    exact this
  · subst e1
    obtain ⟨f, g1, g2, g3, g4⟩ := owns_row h.own
    refine ⟨_, cap, none, 0, ⟨by rw [← hl]; exact h.row, by omega, fun hp => ⟨g, 0, cap * 1, f, rfl, g1, by omega, by omega, fun i hi => ?_⟩, Nat.le_refl _, h.bel⟩⟩
    obtain ⟨b, a1, a2, a3, a4⟩ := h.each i (by omega)
    rw [pairs_at]
    refine ⟨b, (prow O C i).length, ?_, a2, by omega, fun e => a4 (by rw [e]; rfl)⟩
    rw [Nat.zero_add, g4 i (by omega), a1]
def newPost (O C : List (List Int)) (hd : Int) (w : World) (e : Ending) (w' : World) : Prop := e = .returned (.pointer (some ⟨w.heap.size, 0, none⟩)) ∧ QEx w.heap.size w w' w.heap.size (pairs O C) hd 0

set_option maxHeartbeats 1000000 in
set_option maxRecDepth 20000 in
theorem new10 (a b : Option Addr) (c d : Nat) (hd : Int) (S : Nat → Prop) (O C : List (List Int)) (w : World) (hO : RowsAt .u32 S w a O) (hC : RowsAt .u32 S w b C) (hS : ∀ b, S b → b < w.heap.size) (hs : ∀ i, EachP O C i) (hlen : C.length = O.length) (hn : O.length ≤ 4096) :
    Calls Try.prog 10 #[.slice a O.length c, .slice b C.length d, .int .i64 hd] w (newPost O C hd w) := by
  have HO := hide hO
  have HC := hide hC
  have HS := hide hS
  have HE := hide hs
  have HL := hide hlen
  clear hO hC hS hs hlen
  go_enter Try.func10, Try.ntmps10
  go_wp2
  go_loopw [8] (fun i wr => ∃ k : Nat, k ≤ O.length ∧ i = .int .i64 k ∧ ∃ bv vs, NQ O C hd w k bv vs wr) (fun i _ => O.length - (intOf i).toNat)
  case atStart =>
    refine ⟨0, Nat.zero_le _, rfl, .slice none 0 0, [], ⟨?_, World.ownsRow_nil _ _ _ _, rfl, fun i h => absurd h (by simp), (Below.refl _ _).alloc (Nat.le_refl _) _⟩⟩
    refine ⟨_, (MapKept.heap_alloc w _).1, rfl, fun i hi => ?_⟩
    match i, hi with
    | 0, _ => rfl
    | 1, _ => rfl
    | 2, _ => rfl
  case round =>
    rename World => wr
    obtain ⟨k, hk, rfl, bv, vs, hN⟩ := hrel
    have HN := hide hN
    have hwr := hN.bel.size
    have hql := hN.row.lt
    obtain ⟨va, vc, hbv⟩ := hN.val
    subst hbv
    have k0 : wr.cell? ⟨w.heap.size, 0, none⟩ = some (.slice va vs.length vc) := hN.row.cell (show 0 < 3 by omega)
    clear hN
    by_cases hlt : k < O.length
    · have hlc : k < C.length := by rw [HL.out]; exact hlt
      obtain ⟨b1, o1, rfl, hb1, hx1⟩ := HO.out (by omega)
      obtain ⟨b2, o2, rfl, hb2, hx2⟩ := HC.out (by omega)
      have hb1w := HS.out b1 hb1
      have hb2w := HS.out b2 hb2
      obtain ⟨a1, c1, p1, p2⟩ := hx1 k hlt
      obtain ⟨a2, c2, p3, p4⟩ := hx2 k hlc
      obtain ⟨e1, e2, e3, _⟩ := HE.out k hlt hlc
      rw [e1] at p3
      have f1 := (HN.out.bel.cell (p := ⟨b1, o1 + k, none⟩) hb1w).trans p1
      have f3 := (HN.out.bel.cell (p := ⟨b2, o2 + k, none⟩) hb2w).trans p3
      obtain ⟨b3, o3, rfl, hb3, hy1⟩ := p2 (by omega)
      obtain ⟨b4, o4, rfl, hb4, hy2⟩ := p4 (by omega)
      have hb3w := HS.out b3 hb3
      have hb4w := HS.out b4 hb4
      have hpl : (prow O C k).length = O[k].length := by simp [prow, hlt, hlc, e1]
      have HP : Hid (∀ j (h : j < (prow O C k).length), wr.cell? ⟨b3, o3 + j, none⟩ = some (.int .u32 (prow O C k)[j].1) ∧ wr.cell? ⟨b4, o4 + j, none⟩ = some (.int .u32 (prow O C k)[j].2)) := by
        show ∀ j h, _
        intro j h
        have hj1 : j < O[k].length := by omega
        have hj2 : j < C[k].length := by omega
        have q1 := (HN.out.bel.cell (p := ⟨b3, o3 + j, none⟩) hb3w).trans (hy1 j hj1)
        have q2 := (HN.out.bel.cell (p := ⟨b4, o4 + j, none⟩) hb4w).trans (hy2 j hj2)
        have ep : (prow O C k)[j] = (O[k][j], C[k][j]) := by simp [prow, hlt, hlc]
        rw [ep]
        exact ⟨q1, q2⟩
      rw [← hpl] at f1 f3 e3
      have HPu := hide (fun (W w1 : World) (g cap b : Nat) (hW : Below wr.heap.size wr W) hb hbl hbW h1 hg hat => HN.out.push (W := W) (w1 := w1) hW (g := g) (cap := cap) (b := b) hb hbl hbW h1 hg hat)
      obtain ⟨l, hl⟩ : ∃ l, l = prow O C k := ⟨_, rfl⟩
      rw [← hl] at f1 f3 e3 HP HPu
      have HLl := hide hl
      obtain ⟨nl, hnl⟩ : ∃ nl, nl = l.length := ⟨_, rfl⟩
      rw [← hnl] at f1 f3 e3
      have HNl := hide hnl
      have hmk := fun w => run_make_rows (P := Try.prog) 38 42 #[.int .u32 0, .int .u32 0] 2 8 Try.underlying38 (.agg #[.int .u32 0, .int .u32 0]) rfl info42 .i64 .i64 nl (by omega) (by omega) w
      have hki : (k : Int) < (O.length : Int) := by omega
      have hk0 : (0 : Int) ≤ (k : Int) := by omega
      have hkc : (k : Int) < (C.length : Int) := by omega
      have l1 : b1 < wr.heap.size := by omega
      have l2 : b2 < wr.heap.size := by omega
      have l3 : b3 < wr.heap.size := by omega
      have l4 : b4 < wr.heap.size := by omega
      have hvl : vs.length ≤ 4096 := by rw [HN.out.len]; omega
      clear p1 p2 p3 p4 hx1 hx2 hy1 hy2 hpl hl hnl e1 e2
      go_wp2
      go_loopw [10] (fun i wi => ∃ m : Nat, m ≤ nl ∧ i = .int .i64 m ∧ NB l wr m wi) (fun i _ => nl - (intOf i).toNat)
      case atStart => exact ⟨0, Nat.zero_le _, rfl, (Below.refl _ _).alloc (Nat.le_refl _) _, _, (by rw [← HNl.out]; exact rowIs_made wr #[.int .u32 0, .int .u32 0] (nl * 2) 42), fun j _ h => absurd h (Nat.not_lt_zero _)⟩
      case round =>
        rename World => wi
        obtain ⟨m, hm, rfl, hB⟩ := hrel
        have HB := hide hB
        obtain ⟨hBi, fi, hfi, _⟩ := hB
        have hwi := hBi.size
        have hil := hfi.lt
        by_cases hml : m < nl
        · have hmL : m < l.length := by rw [← HNl.out]; exact hml
          have y1 := (hBi.cell (p := ⟨b1, o1 + k, none⟩) l1).trans f1
          have y3 := (hBi.cell (p := ⟨b2, o2 + k, none⟩) l2).trans f3
          have y2 := (hBi.cell (p := ⟨b3, o3 + m, none⟩) l3).trans (HP.out m hmL).1
          have y4 := (hBi.cell (p := ⟨b4, o4 + m, none⟩) l4).trans (HP.out m hmL).2
          have u0 := hfi.cell (show m * 2 < l.length * 2 by omega)
          have u1 := hfi.cell (show m * 2 + 1 < l.length * 2 by omega)
          have z0 := hfi.frozen (m * 2)
          have z1 := hfi.frozen (m * 2 + 1)
          have HNx := hide (HB.out.step hmL)
          generalize l[m] = x at y2 y4 HNx
          generalize fi (m * 2) = v0 at u0
          generalize fi (m * 2 + 1) = v1 at u1
          have hmi : (m : Int) < (nl : Int) := by omega
          have hm0 : (0 : Int) ≤ (m : Int) := by omega
          have n1 : b1 ≠ wr.heap.size := by omega
          have n2 : b2 ≠ wr.heap.size := by omega
          have n3 : b3 ≠ wr.heap.size := by omega
          have n4 : b4 ≠ wr.heap.size := by omega
          clear hBi hfi f1 f3 k0
          go_wp2
          go_big_region
          go_wp2
          go_roundw
          case rel => exact ⟨m + 1, by omega, by go_num, HNx.out.drew⟩
          case measure => simp [intOf]; omega
        · obtain rfl : m = nl := by omega
          have hBl : BlkAt wi wr.heap.size l := NB.blk (by rw [← HNl.out]; exact HB.out)
          have HBl := hide hBl
          have k0' := (hBi.cell (p := ⟨w.heap.size, 0, none⟩) hql).trans k0
          have HBi := hide hBi
          obtain ⟨i0, hi, hz0, hz1, hz2⟩ := info_parts info38
          have HOwn : Hid (wi.ownsRow (w.heap.size + 1) 38 1 (.slice va vs.length vc) vs.length vs) := owns_kept HN.out.own (fun g hg => hBi.block g (owns_lt HN.out.own hg))
          have hBW : Below wr.heap.size wr (wi.alloc (.cells #[.slice (some ⟨wr.heap.size, 0, none⟩) m m] 38)) := hBi.alloc hwi _
          have HAf := hide (fun w1 (hg : (wi.alloc (.cells #[.slice (some ⟨wr.heap.size, 0, none⟩) m m] 38)).grownBy w1 (Value.slice va vs.length vc).ownBlock) => HN.out.after hBW hg)
          have HBW := hide hBW
          have hgl : w.heap.size + 1 ≤ wi.heap.size := by omega
          have k0'' := cal k0' (.cells #[.slice (some ⟨wr.heap.size, 0, none⟩) m m] 38)
          clear hBi hfi f1 f3 k0 hBl hBW
          go_wp2_with (at_builtin; refine wpList_append_lies _ rfl _ _ 37 rfl (w.heap.size + 1) 38 i0 (.slice none 0 0) 1 24 Try.underlying37 hi hz0 hz1 hz2 rfl (by decide) (.slice va vs.length vc) vs.length vs rfl (by exact World.ownsRow.alloc HOwn.out _) ⟨wi.heap.size, 0, none⟩ 1 1 [.slice (some ⟨wr.heap.size, 0, none⟩) m m] rfl rfl (by exact cell_one_new _ _ _) (by simp [Value.oneCell']) (by omega) (by unfold maxLen; omega) (by omega) (by simp; omega) (wi.heap.size + 1) (by simp) ?_; intro g3 cap3 w1 hown1 hgrow1 hat1 hlt1; obtain ⟨s1, s2⟩ := HAf.out w1 hgrow1; have HY := hide (And.intro hown1 (And.intro hgrow1 hat1)); clear hown1 hgrow1 hat1 hlt1)
          go_roundw
          case rel =>
            obtain ⟨z1, z2, z3⟩ := HY.out
            have em : m = l.length := HNl.out
            subst em
            refine ⟨k + 1, by omega, by go_num, _, _, HPu.out _ _ _ _ _ HBW.out (HBl.out.kept (by simp) ((MapKept.heap_alloc wi _).2 _ hil)) (Nat.le_refl _) (by simp; omega) z1 z2 (by simpa using z3)⟩
          case measure => simp [intOf]; omega
    · clear k0
      go_wp2
      go_ret
      obtain rfl : k = O.length := by omega
      exact ⟨rfl, HN.out.done⟩
end Go.Proofs.Qxb6603480a
