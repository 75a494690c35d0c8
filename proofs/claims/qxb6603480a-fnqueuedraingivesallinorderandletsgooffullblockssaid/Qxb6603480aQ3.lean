/-
  zzQueueFlat (9).
-/
import Derived.Test.Qxb6603480aQ2
namespace Go.Proofs.Qxb6603480a
open Go.RowKit

def ucf (x : Int) : List Value := [.int .u32 x]
theorem ucf_len (x : Int) : (ucf x).length = 1 := rfl
def Two (w0 : World) (l1 l2 : List Int) (v1 v2 : Value) (wr : World) : Prop := GRel 31 1 ucf w0 l1 v1 wr ∧ GRel 31 1 ucf w0 l2 v2 wr ∧ ∀ g, v1.ownBlock = some g → v2.ownBlock ≠ some g
theorem Two.swap {w0 wr : World} {l1 l2 : List Int} {v1 v2 : Value} (h : Two w0 l1 l2 v1 v2 wr) : Two w0 l2 l1 v2 v1 wr := ⟨h.2.1, h.1, fun g h1 h2 => h.2.2 g h2 h1⟩
theorem Two.grow {w0 wr w' : World} {l1 l2 : List Int} {v1 v2 : Value} (h : Two w0 l1 l2 v1 v2 wr) (k : Below wr.heap.size wr w') : Two w0 l1 l2 v1 v2 w' := ⟨h.1.grow k, h.2.1.grow k, h.2.2⟩
theorem Two.push {w0 wr : World} {l1 l2 : List Int} {v1 v2 : Value} (h : Two w0 l1 l2 v1 v2 wr) {W w1 : World} (hW : Below wr.heap.size wr W) {g cap : Nat} {x : Int}
    (h1 : w1.ownsRow w0.heap.size 31 1 (.slice (some ⟨g, 0, none⟩) (l1.length + 1) cap) (l1.length + 1) (l1.flatMap ucf ++ [.int .u32 x])) (hg : W.grownBy w1 v1.ownBlock) (hat : v1.ownBlock = some g ∨ g = W.heap.size) :
    Two w0 (l1 ++ [x]) l2 (.slice (some ⟨g, 0, none⟩) (l1.length + 1) cap) v2 w1 := by
  have hp := h.1.push hW (x := x) rfl h1 hg
  have h2W := h.2.1.grow hW
  refine ⟨hp, ⟨owns_kept h2W.1 (fun b hb => hg.block b (owns_lt h2W.1 hb) (fun e => h.2.2 b e.symm hb)), hp.2⟩, fun b hb hb2 => ?_⟩
  have hbg : b = g := by cases hb; rfl
  subst hbg
  rcases hat with e | e
  · exact h.2.2 b e hb2
  · have := owns_lt h2W.1 hb2; omega
theorem GRel.ints {w0 w : World} {l : List Int} {v : Value} (h : GRel 31 1 ucf w0 l v w) : ∃ a c, v = .slice a l.length c ∧ IntsAt .u32 (· < w.heap.size) w a l := by
  rcases h.form ucf_len with ⟨rfl, rfl⟩ | ⟨g, cap, rfl, _, h2, h3⟩
  · exact ⟨none, 0, rfl, fun h => absurd h (by simp)⟩
  · refine ⟨_, cap, rfl, fun _ => ⟨g, 0, rfl, h2, fun i hi => ?_⟩⟩
    have := h3 i hi 0 _ rfl
    rw [Nat.zero_add]
    simpa using this
/-! ### The flat list -/
def flat (O : List (List Int)) (h : Nat) : List Int := match O with | [] => [] | r :: R => r.drop h ++ R.flatten
/-- The first block from h on, and i blocks behind it. -/
def flatP (r : List Int) (R : List (List Int)) (h i : Nat) : List Int := r.drop h ++ (R.take i).flatten
theorem flatP_snoc (r : List Int) (R : List (List Int)) (h i : Nat) (hi : i < R.length) : flatP r R h (i + 1) = flatP r R h i ++ R[i] := by
  unfold flatP
  rw [List.take_succ_eq_append_getElem hi, List.flatten_append, List.append_assoc]
  simp
theorem take_snoc (l : List Int) (j : Nat) (h : j < l.length) : l.take (j + 1) = l.take j ++ [l[j]] := List.take_succ_eq_append_getElem h
theorem drop_snoc (l : List Int) (h j : Nat) (hj : j < l.length) (hh : h ≤ j) : (l.take (j + 1)).drop h = (l.take j).drop h ++ [l[j]] := by
  rw [take_snoc l j hj, List.drop_append_of_le_length (by rw [List.length_take]; omega)]
theorem flatten_le (R : List (List Int)) (h : ∀ r ∈ R, r.length ≤ 4096) : R.flatten.length ≤ R.length * 4096 := by
  induction R with
  | nil => simp
  | cons r R ih =>
    have h1 := h r (by simp)
    have h2 := ih (fun q hq => h q (by simp [hq]))
    rw [List.flatten_cons, List.length_append, List.length_cons, Nat.succ_mul]
    omega
theorem flatP_le (r : List Int) (R : List (List Int)) (h i : Nat) (hr : r.length ≤ 4096) (hR : ∀ q ∈ R, q.length ≤ 4096) (hl : R.length ≤ 4096) : (flatP r R h i).length ≤ 16781312 := by
  have h1 := flatten_le (R.take i) (fun q hq => hR q (List.mem_of_mem_take hq))
  have h2 : (R.take i).length ≤ R.length := List.length_take_le' _ _
  unfold flatP
  rw [List.length_append, List.length_drop]
  have h3 : (R.take i).length * 4096 ≤ 4096 * 4096 := Nat.mul_le_mul_right _ (by omega)
  omega
def flatPost (O C : List (List Int)) (h : Nat) (w : World) (e : Ending) (w' : World) : Prop := ∃ v1 v2, e = .returned (.tuple #[v1, v2]) ∧ Two w (flat O h) (flat C h) v1 v2 w'

set_option maxHeartbeats 1000000 in
set_option maxRecDepth 20000 in
theorem flat9 (a b : Option Addr) (c d h : Nat) (S : Nat → Prop) (O C : List (List Int)) (w : World) (hO : RowsAt .u32 S w a O) (hC : RowsAt .u32 S w b C) (hS : ∀ b, S b → b < w.heap.size) (hs : ShapeP O C h) (hn : O.length ≤ 4096) :
    Calls Try.prog 9 #[.slice a O.length c, .slice b C.length d, .int .i64 h] w (flatPost O C h w) := by
  have hlen := hs.len
  cases O with
  | nil =>
    have hC0 : C = [] := List.eq_nil_of_length_eq_zero (by simpa using hlen)
    subst hC0
    clear hO hC hS hs hn hlen
    show Calls Try.prog 9 #[.slice a 0 c, .slice b 0 d, .int .i64 h] w _
    go_enter Try.func9, Try.ntmps9
    go_wp2
    refine bodyPost_ret (v := .tuple #[.slice none 0 0, .slice none 0 0]) (by simp [results, Try.results9, go_sem]) rfl ⟨_, _, rfl, GRel.nil _ _ _ _, GRel.nil _ _ _ _, fun g hg => by cases hg⟩
  | cons r R =>
    cases C with
    | nil => simp at hlen
    | cons r' R' =>
      have hRl : R'.length = R.length := by simpa using hlen
      have hr0 : r'.length = r.length ∧ 1 ≤ r.length ∧ r.length ≤ 4096 ∧ (0 + 1 < (r :: R).length → r.length = 4096) := hs.each 0 (by simp) (by simp)
      have hRi : ∀ i (h1 : i < R.length) (h2 : i < R'.length), R'[i].length = R[i].length ∧ R[i].length ≤ 4096 := fun i h1 h2 => by
        have := hs.each (i + 1) (by simpa using h1) (by simpa using h2)
        simp only [List.getElem_cons_succ] at this
        exact ⟨this.1, this.2.2.1⟩
      have hhr : h ≤ r.length := by
        rcases hs.head with ⟨q, _⟩ | ⟨_, q⟩
        · simp at q
        · have := q.2.1; simp at this; omega
      obtain ⟨b1, o1, rfl, hb1, hx1⟩ := hO (by simp)
      obtain ⟨b2, o2, rfl, hb2, hx2⟩ := hC (by simp)
      have hb1w := hS b1 hb1
      have hb2w := hS b2 hb2
      obtain ⟨a0, c0, p1, p2⟩ := hx1 0 (by simp)
      obtain ⟨a0', c0', p3, p4⟩ := hx2 0 (by simp)
      simp only [List.getElem_cons_zero, Nat.add_zero] at p1 p2 p3 p4
      rw [hr0.1] at p3
      have HP2 := hide p2
      have HP4 := hide p4
      have HX1 : Hid (∀ i (h : i < R.length), ∃ a' c', w.cell? ⟨b1, o1 + (i + 1), none⟩ = some (.slice a' R[i].length c') ∧ IntsAt .u32 S w a' R[i]) := fun i hi => hx1 (i + 1) (by simpa using hi)
      have HX2 : Hid (∀ i (h : i < R'.length), ∃ a' c', w.cell? ⟨b2, o2 + (i + 1), none⟩ = some (.slice a' R'[i].length c') ∧ IntsAt .u32 S w a' R'[i]) := fun i hi => hx2 (i + 1) (by simpa using hi)
      have HS := hide hS
      have HRi := hide hRi
      have hr1 := hr0.1
      have hr3 := hr0.2.2.1
      have HLe := hide (fun hh i => flatP_le r R hh i hr3 (fun q hq => by
        obtain ⟨j, hj, rfl⟩ := List.getElem_of_mem hq
        exact (hRi j hj (by omega)).2) (by simp at hn; omega))
      have HLe' := hide (fun hh i => flatP_le r' R' hh i (by omega) (fun q hq => by
        obtain ⟨j, hj, rfl⟩ := List.getElem_of_mem hq
        have := hRi j (by omega) hj
        omega) (by simp at hn; omega))
      have HR1 := hide hr1
      have HRl := hide hRl
      have e0 : (r' :: R').length = (r :: R).length := hlen
      rw [e0]
      obtain ⟨n, hnn⟩ : ∃ n, n = (r :: R).length := ⟨_, rfl⟩
      rw [← hnn]
      have hn1 : n = R.length + 1 := by rw [hnn]; simp
      have hn4 : n ≤ 4096 := by rw [hnn]; exact hn
      have hn0 : ((n : Int) == 0) = false := by rw [beq_eq_false_iff_ne]; omega
      have HFin : Hid (flat (r :: R) h = flatP r R h R.length ∧ flat (r' :: R') h = flatP r' R' h R.length) := by
        refine ⟨?_, ?_⟩
        · show r.drop h ++ R.flatten = r.drop h ++ (R.take R.length).flatten
          rw [List.take_length]
        · show r'.drop h ++ R'.flatten = r'.drop h ++ (R'.take R.length).flatten
          rw [List.take_of_length_le (by omega)]
      clear hO hC hS hs hn hlen hr0 hRi hx1 hx2 p2 p4 e0 hnn hr1 hRl
      obtain ⟨nr, hnr⟩ : ∃ nr, nr = r.length := ⟨_, rfl⟩
      rw [← hnr] at p1 p3 hhr hr3
      have HNr := hide hnr
      clear hnr
      have i0 : (0 : Int) < (n : Int) := by omega
      have hnp : 1 ≤ n := by omega
      have HN1 := hide hn1
      clear hn1
      go_enter Try.func9, Try.ntmps9
      go_wp2
      go_loopw [8, 9, 10] (fun v1 v2 i wr => ∃ j : Nat, h ≤ j ∧ j ≤ nr ∧ i = .int .i64 j ∧ Two w ((r.take j).drop h) ((r'.take j).drop h) v1 v2 wr) (fun _ _ i _ => nr - (intOf i).toNat)
      case atStart => exact ⟨h, Nat.le_refl _, hhr, rfl, by
        have e1 : (r.take h).drop h = [] := by simp
        have e2 : (r'.take h).drop h = [] := by simp
        rw [e1, e2]
        exact ⟨GRel.nil _ _ _ _, GRel.nil _ _ _ _, fun g hg => by cases hg⟩⟩
      case round =>
        rename World => wr
        obtain ⟨j, hj0, hj, rfl, hT⟩ := hrel
        have HT := hide hT
        have hwr := hT.1.2.size
        obtain ⟨va, vc, hv1⟩ := hT.1.val
        obtain ⟨vb, vd, hv2⟩ := hT.2.1.val
        subst hv1 hv2
        have q1 := (hT.1.2.cell (p := ⟨b1, o1, none⟩) hb1w).trans p1
        have q3 := (hT.1.2.cell (p := ⟨b2, o2, none⟩) hb2w).trans p3
        by_cases hjl : j < nr
        · have hjr : j < r.length := by rw [← HNr.out]; exact hjl
          have hjr' : j < r'.length := by rw [HR1.out]; exact hjr
          obtain ⟨c1, d1, rfl, hc1, hy1⟩ := HP2.out (by omega)
          obtain ⟨c2, d2, rfl, hc2, hy2⟩ := HP4.out (by omega)
          have hc1w := HS.out c1 hc1
          have hc2w := HS.out c2 hc2
          have y1 := (hT.1.2.cell (p := ⟨c1, d1 + j, none⟩) hc1w).trans (hy1 j hjr)
          have y2 := (hT.1.2.cell (p := ⟨c2, d2 + j, none⟩) hc2w).trans (hy2 j hjr')
          have HE1 := hide (drop_snoc r h j hjr hj0)
          have HE2 := hide (drop_snoc r' h j hjr' hj0)
          have hl1 : ((r.take j).drop h).length ≤ 4096 := by rw [List.length_drop, List.length_take]; omega
          have hl2 : ((r'.take j).drop h).length ≤ 4096 := by rw [List.length_drop, List.length_take]; omega
          generalize r[j] = x1 at y1 HE1
          generalize r'[j] = x2 at y2 HE2
          obtain ⟨l1, hll1⟩ : ∃ l1, l1 = (r.take j).drop h := ⟨_, rfl⟩
          obtain ⟨l2, hll2⟩ : ∃ l2, l2 = (r'.take j).drop h := ⟨_, rfl⟩
          rw [← hll1] at HE1 hl1 HT
          rw [← hll2] at HE2 hl2 HT
          rw [← hll1, ← hll2]
          obtain ⟨m1, hm1⟩ : ∃ m1, m1 = l1.length := ⟨_, rfl⟩
          obtain ⟨m2, hm2⟩ : ∃ m2, m2 = l2.length := ⟨_, rfl⟩
          rw [← hm1] at hl1
          rw [← hm2] at hl2
          rw [← hm1, ← hm2]
          have HM1 := hide hm1
          have HM2 := hide hm2
          have ij : (j : Int) < (nr : Int) := by omega
          have ij0 : (0 : Int) ≤ (j : Int) := by omega
          clear hT hy1 hy2 hll1 hll2 hm1 hm2
          obtain ⟨t0, hi, hz0, hz1, hz2⟩ := info_parts info31
          have HOw1 : Hid (wr.ownsRow w.heap.size 31 1 (.slice va m1 vc) m1 (l1.flatMap ucf)) := by
            have := HT.out.1.1
            rw [← HM1.out] at this
            exact this
          go_upto_region 8 with (at_builtin; refine wpList_append_lies _ rfl _ _ 26 rfl w.heap.size 31 t0 (.int .u32 0) 1 4 Try.underlying26 hi hz0 hz1 hz2 rfl (by decide) (.slice va m1 vc) m1 (l1.flatMap ucf) rfl (by exact World.ownsRow.alloc HOw1.out _) ⟨wr.heap.size, 0, none⟩ 1 1 [.int .u32 x1] rfl rfl (by exact cell_one_new _ _ _) (ints_oneCell .u32 [x1]) (by omega) (by unfold maxLen; omega) (by omega) (by simp; omega) (wr.heap.size + 1) (by simp) ?_; intro g3 cap3 w1 hown1 hgrow1 hat1 hlt1; have HY := hide (And.intro hown1 (And.intro hgrow1 hat1)); clear hown1 hgrow1 hat1 hlt1)
          have hT1 : Two w (l1 ++ [x1]) l2 (.slice (some ⟨g3, 0, none⟩) (m1 + 1) cap3) (.slice vb m2 vd) w1 := by
            obtain ⟨z1, z2, z3⟩ := HY.out
            have := HM1.out
            subst this
            have h2 := HM2.out
            subst h2
            exact HT.out.push (W := wr.alloc _) ((Below.refl _ _).alloc (Nat.le_refl _) _) z1 z2 (by simpa using z3)
          have HT1 := hide hT1
          have hw1 := hT1.1.2.size
          have u3 := (hT1.1.2.cell (p := ⟨b2, o2, none⟩) hb2w).trans p3
          have u4 := (hT1.1.2.cell (p := ⟨c2, d2 + j, none⟩) hc2w).trans ((HT.out.1.2.cell (p := ⟨c2, d2 + j, none⟩) hc2w).symm.trans y2)
          have HOw2 : Hid (w1.ownsRow w.heap.size 31 1 (.slice vb m2 vd) m2 (l2.flatMap ucf)) := by
            have := hT1.2.1.1
            rw [← HM2.out] at this
            exact this
          clear hT1 HY HT HOw1 q1 q3 y1 y2
          go_wp2_with (at_builtin; refine wpList_append_lies _ rfl _ _ 26 rfl w.heap.size 31 t0 (.int .u32 0) 1 4 Try.underlying26 hi hz0 hz1 hz2 rfl (by decide) (.slice vb m2 vd) m2 (l2.flatMap ucf) rfl (by exact World.ownsRow.alloc HOw2.out _) ⟨w1.heap.size, 0, none⟩ 1 1 [.int .u32 x2] rfl rfl (by exact cell_one_new _ _ _) (ints_oneCell .u32 [x2]) (by omega) (by unfold maxLen; omega) (by omega) (by simp; omega) (w1.heap.size + 1) (by simp) ?_; intro g4 cap4 w2 hown2 hgrow2 hat2 hlt2; have HY := hide (And.intro hown2 (And.intro hgrow2 hat2)); clear hown2 hgrow2 hat2 hlt2)
          go_roundw
          case rel =>
            obtain ⟨z1, z2, z3⟩ := HY.out
            obtain rfl := HM2.out
            refine ⟨j + 1, by omega, by omega, by go_num, ?_⟩
            rw [HE1.out, HE2.out]
            exact (HT1.out.swap.push (W := w1.alloc _) ((Below.refl _ _).alloc (Nat.le_refl _) _) z1 z2 (by simpa using z3)).swap
          case measure => simp [intOf]; omega
        · obtain rfl : j = nr := by omega
          have HT2 : Hid (Two w (flatP r R h 0) (flatP r' R' h 0) (.slice va ((r.take j).drop h).length vc) (.slice vb ((r'.take j).drop h).length vd) wr) := by
            have e1 : (r.take j).drop h = flatP r R h 0 := by
              unfold flatP
              rw [List.take_of_length_le (by rw [HNr.out]; exact Nat.le_refl _)]
              simp
            have e2 : (r'.take j).drop h = flatP r' R' h 0 := by
              unfold flatP
              rw [List.take_of_length_le (by rw [HR1.out, HNr.out]; exact Nat.le_refl _)]
              simp
            show Two _ _ _ _ _ _
            rw [← e1, ← e2]
            exact HT.out
          clear hT HT
          go_wp2
          clear q1 q3 p1 p3
          go_loopw [8, 9, 11] (fun v1 v2 i wr => ∃ k : Nat, k + 1 ≤ n ∧ i = .int .i64 ((k + 1 : Nat) : Int) ∧ Two w (flatP r R h k) (flatP r' R' h k) v1 v2 wr) (fun _ _ i _ => n - (intOf i).toNat)
          case atStart => exact ⟨0, hnp, rfl, HT2.out⟩
          case round =>
            rename World => wq
            obtain ⟨k, hk, rfl, hT⟩ := hrel
            have HTk := hide hT
            have hwq := hT.1.2.size
            clear hT HT2
            obtain ⟨k1, hk1⟩ : ∃ k1, k1 = k + 1 := ⟨_, rfl⟩
            rw [← hk1]
            rw [← hk1] at hk
            have HK1 := hide hk1
            clear hk1
            by_cases hkl : k1 < n
            · have hkR : k < R.length := by have := HN1.out; have := HK1.out; omega
              have hkR' : k < R'.length := by rw [HRl.out]; exact hkR
              obtain ⟨a1, c1, g1, g2⟩ := HX1.out k hkR
              obtain ⟨a2, c2, g3, g4⟩ := HX2.out k hkR'
              obtain ⟨er, el⟩ := HRi.out k hkR hkR'
              rw [er] at g3
              rw [← HK1.out] at g1 g3
              have HG2 := hide g2
              have HG4 := hide g4
              have HSn1 := hide (flatP_snoc r R h k hkR)
              have HSn2 := hide (flatP_snoc r' R' h k hkR')
              have HF1 := hide (HLe.out h k)
              have HF2 := hide (HLe'.out h k)
              obtain ⟨x, hx⟩ : ∃ x, x = R[k] := ⟨_, rfl⟩
              obtain ⟨x', hx'⟩ : ∃ x', x' = R'[k] := ⟨_, rfl⟩
              rw [← hx] at g1 g3 HG2 HSn1 el er
              rw [← hx'] at HG4 HSn2 er
              obtain ⟨nx, hnx⟩ : ∃ nx, nx = x.length := ⟨_, rfl⟩
              rw [← hnx] at g1 g3 el
              have HNx := hide hnx
              have HEr := hide er
              have G1 := hide g1
              have G3 := hide g3
              have ik : (k1 : Int) < (n : Int) := by omega
              have ik0 : (0 : Int) ≤ (k1 : Int) := by omega
              clear g1 g2 g3 g4 hx hx' hnx er hkR hkR'
              go_wp2
              go_loopw [8, 9, 12] (fun v1 v2 i wr => ∃ m : Nat, m ≤ nx ∧ i = .int .i64 m ∧ Two w (flatP r R h k ++ x.take m) (flatP r' R' h k ++ x'.take m) v1 v2 wr) (fun _ _ i _ => nx - (intOf i).toNat)
              case atStart => exact ⟨0, Nat.zero_le _, rfl, by simpa using HTk.out⟩
              case round =>
                rename World => wz
                obtain ⟨m, hm, rfl, hT⟩ := hrel
                have HTm := hide hT
                have hwz := hT.1.2.size
                obtain ⟨ya, yc, hv1⟩ := hT.1.val
                obtain ⟨yb, yd, hv2⟩ := hT.2.1.val
                subst hv1 hv2
                have q1 := (hT.1.2.cell (p := ⟨b1, o1 + k1, none⟩) hb1w).trans G1.out
                have q3 := (hT.1.2.cell (p := ⟨b2, o2 + k1, none⟩) hb2w).trans G3.out
                by_cases hml : m < nx
                · have hmx : m < x.length := by rw [← HNx.out]; exact hml
                  have hmx' : m < x'.length := by rw [HEr.out]; exact hmx
                  obtain ⟨c3, d3, rfl, hc3, hy1⟩ := HG2.out (by omega)
                  obtain ⟨c4, d4, rfl, hc4, hy2⟩ := HG4.out (by omega)
                  have hc3w := HS.out c3 hc3
                  have hc4w := HS.out c4 hc4
                  have y1 := (hT.1.2.cell (p := ⟨c3, d3 + m, none⟩) hc3w).trans (hy1 m hmx)
                  have y2 := (hT.1.2.cell (p := ⟨c4, d4 + m, none⟩) hc4w).trans (hy2 m hmx')
                  have HE1 : Hid (flatP r R h k ++ x.take (m + 1) = (flatP r R h k ++ x.take m) ++ [x[m]]) := by
                    show _ = _
                    rw [take_snoc x m hmx, List.append_assoc]
                  have HE2 : Hid (flatP r' R' h k ++ x'.take (m + 1) = (flatP r' R' h k ++ x'.take m) ++ [x'[m]]) := by
                    show _ = _
                    rw [take_snoc x' m hmx', List.append_assoc]
                  have hl1 : (flatP r R h k ++ x.take m).length ≤ 16785408 := by
                    have := HF1.out
                    rw [List.length_append, List.length_take]; omega
                  have hl2 : (flatP r' R' h k ++ x'.take m).length ≤ 16785408 := by
                    have := HF2.out
                    rw [List.length_append, List.length_take]; omega
                  generalize x[m] = x1 at y1 HE1
                  generalize x'[m] = x2 at y2 HE2
                  obtain ⟨l1, hll1⟩ : ∃ l1, l1 = flatP r R h k ++ x.take m := ⟨_, rfl⟩
                  obtain ⟨l2, hll2⟩ : ∃ l2, l2 = flatP r' R' h k ++ x'.take m := ⟨_, rfl⟩
                  rw [← hll1] at HE1 hl1 HTm
                  rw [← hll2] at HE2 hl2 HTm
                  rw [← hll1, ← hll2]
                  obtain ⟨m1, hm1⟩ : ∃ m1, m1 = l1.length := ⟨_, rfl⟩
                  obtain ⟨m2, hm2⟩ : ∃ m2, m2 = l2.length := ⟨_, rfl⟩
                  rw [← hm1] at hl1
                  rw [← hm2] at hl2
                  rw [← hm1, ← hm2]
                  have HM1 := hide hm1
                  have HM2 := hide hm2
                  have ij : (m : Int) < (nx : Int) := by omega
                  have ij0 : (0 : Int) ≤ (m : Int) := by omega
                  clear hT hy1 hy2 hll1 hll2 hm1 hm2
                  obtain ⟨t0, hi, hz0, hz1, hz2⟩ := info_parts info31
                  have HOw1 : Hid (wz.ownsRow w.heap.size 31 1 (.slice ya m1 yc) m1 (l1.flatMap ucf)) := by
                    have := HTm.out.1.1
                    rw [← HM1.out] at this
                    exact this
                  go_upto_region 16 with (at_builtin; refine wpList_append_lies _ rfl _ _ 26 rfl w.heap.size 31 t0 (.int .u32 0) 1 4 Try.underlying26 hi hz0 hz1 hz2 rfl (by decide) (.slice ya m1 yc) m1 (l1.flatMap ucf) rfl (by exact World.ownsRow.alloc HOw1.out _) ⟨wz.heap.size, 0, none⟩ 1 1 [.int .u32 x1] rfl rfl (by exact cell_one_new _ _ _) (ints_oneCell .u32 [x1]) (by omega) (by unfold maxLen; omega) (by omega) (by simp; omega) (wz.heap.size + 1) (by simp) ?_; intro g3 cap3 w1 hown1 hgrow1 hat1 hlt1; have HY := hide (And.intro hown1 (And.intro hgrow1 hat1)); clear hown1 hgrow1 hat1 hlt1)
                  have hT1 : Two w (l1 ++ [x1]) l2 (.slice (some ⟨g3, 0, none⟩) (m1 + 1) cap3) (.slice yb m2 yd) w1 := by
                    obtain ⟨z1, z2, z3⟩ := HY.out
                    have := HM1.out
                    subst this
                    have h2 := HM2.out
                    subst h2
                    exact HTm.out.push (W := wz.alloc _) ((Below.refl _ _).alloc (Nat.le_refl _) _) z1 z2 (by simpa using z3)
                  have HT1 := hide hT1
                  have hw1 := hT1.1.2.size
                  have u3 := (hT1.1.2.cell (p := ⟨b2, o2 + k1, none⟩) hb2w).trans G3.out
                  have u4 := (hT1.1.2.cell (p := ⟨c4, d4 + m, none⟩) hc4w).trans ((HTm.out.1.2.cell (p := ⟨c4, d4 + m, none⟩) hc4w).symm.trans y2)
                  have HOw2 : Hid (w1.ownsRow w.heap.size 31 1 (.slice yb m2 yd) m2 (l2.flatMap ucf)) := by
                    have := hT1.2.1.1
                    rw [← HM2.out] at this
                    exact this
                  clear hT1 HY HTm HOw1 q1 q3 y1 y2
                  go_wp2_with (at_builtin; refine wpList_append_lies _ rfl _ _ 26 rfl w.heap.size 31 t0 (.int .u32 0) 1 4 Try.underlying26 hi hz0 hz1 hz2 rfl (by decide) (.slice yb m2 yd) m2 (l2.flatMap ucf) rfl (by exact World.ownsRow.alloc HOw2.out _) ⟨w1.heap.size, 0, none⟩ 1 1 [.int .u32 x2] rfl rfl (by exact cell_one_new _ _ _) (ints_oneCell .u32 [x2]) (by omega) (by unfold maxLen; omega) (by omega) (by simp; omega) (w1.heap.size + 1) (by simp) ?_; intro g4 cap4 w2 hown2 hgrow2 hat2 hlt2; have HY := hide (And.intro hown2 (And.intro hgrow2 hat2)); clear hown2 hgrow2 hat2 hlt2)
                  go_roundw
                  case rel =>
                    obtain ⟨z1, z2, z3⟩ := HY.out
                    obtain rfl := HM2.out
                    refine ⟨m + 1, by omega, by go_num, ?_⟩
                    rw [HE1.out, HE2.out]
                    exact (HT1.out.swap.push (W := w1.alloc _) ((Below.refl _ _).alloc (Nat.le_refl _) _) z1 z2 (by simpa using z3)).swap
                  case measure => simp [intOf]; omega
                · obtain rfl : m = nx := by omega
                  clear hT
                  go_wp2
                  go_roundw
                  case rel =>
                    refine ⟨k + 1, by have := HK1.out; omega, by have := HK1.out; go_num, ?_⟩
                    rw [HSn1.out, HSn2.out]
                    have e1 : x.take m = x := List.take_of_length_le (by rw [HNx.out]; exact Nat.le_refl _)
                    have e2 : x'.take m = x' := List.take_of_length_le (by rw [HEr.out, HNx.out]; exact Nat.le_refl _)
                    have := HTm.out
                    rw [e1, e2] at this ⊢
                    exact this
                  case measure => simp [intOf]; omega
            · have hkR : k = R.length := by have := HN1.out; have := HK1.out; omega
              obtain ⟨xa, xc, hv1⟩ := HTk.out.1.val
              obtain ⟨xb, xd, hv2⟩ := HTk.out.2.1.val
              subst hv1 hv2
              have HFk : Hid (Two w (flat (r :: R) h) (flat (r' :: R') h) (.slice xa (flatP r R h k).length xc) (.slice xb (flatP r' R' h k).length xd) wq) := by
                show Two _ _ _ _ _ _
                rw [HFin.out.1, HFin.out.2, ← hkR]
                exact HTk.out
              clear hkR HTk
              go_wp2
              refine bodyPost_ret (v := .tuple #[.slice xa (flatP r R h k).length xc, .slice xb (flatP r' R' h k).length xd]) (by simp [results, Try.results9, go_sem]) rfl ⟨_, _, rfl, HFk.out⟩
end Go.Proofs.Qxb6603480a
