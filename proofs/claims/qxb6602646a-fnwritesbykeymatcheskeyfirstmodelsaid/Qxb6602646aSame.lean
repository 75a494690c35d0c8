/-
  zzSameSW (18), ZZSWPlaces (49), ZZSWSession (50): reading the lists of session writes.
-/
import Derived.Test.Qxb6602646aWbx
namespace Go.Proofs.Qxb6602646a
open Go.RowKit

/-- The array at a holds the session writes E. -/
def SwRead (w : World) (a : Option Addr) (E : List (Int × List Int)) : Prop :=
  0 < E.length → ∃ g, a = some ⟨g, 0, none⟩ ∧ g < w.heap.size ∧ ∀ i (h : i < E.length), w.cell? ⟨g, i * 2, none⟩ = some (.int .i64 E[i].1) ∧ ∃ pa pc, w.cell? ⟨g, i * 2 + 1, none⟩ = some (.slice pa E[i].2.length pc) ∧ IntsAt .i32 (· < w.heap.size) w pa E[i].2
theorem SwRead.grow {w w' : World} {a : Option Addr} {E : List (Int × List Int)} (h : SwRead w a E) (k : Below w.heap.size w w') : SwRead w' a E := fun hl => by
  obtain ⟨g, ha, hg, hx⟩ := h hl
  refine ⟨g, ha, Nat.lt_of_lt_of_le hg k.size, fun i hi => ?_⟩
  obtain ⟨h1, pa, pc, h2, h3⟩ := hx i hi
  exact ⟨(k.cell (p := ⟨g, i * 2, none⟩) hg).trans h1, pa, pc, (k.cell (p := ⟨g, i * 2 + 1, none⟩) hg).trans h2, (h3.kept (SameOn.of_below k)).mono fun b hb => Nat.lt_of_lt_of_le hb k.size⟩
theorem elCells_at (l : List WEl) (i : Nat) (hi : i < l.length) : (elCells l)[i * 2]? = some (.int .i64 l[i].ses) ∧ (elCells l)[i * 2 + 1]? = some l[i].pv := by
  induction l generalizing i with
  | nil => simp at hi
  | cons e l ih =>
    have e0 : elCells (e :: l) = .int .i64 e.ses :: e.pv :: elCells l := by simp [elCells]
    rw [e0]
    cases i with
    | zero => exact ⟨rfl, rfl⟩
    | succ i =>
      obtain ⟨h1, h2⟩ := ih i (by simpa using hi)
      constructor
      · rw [show (i + 1) * 2 = (i * 2 + 1) + 1 by omega]; simpa using h1
      · rw [show (i + 1) * 2 + 1 = (i * 2 + 1 + 1) + 1 by omega]; simpa using h2
theorem absE_at (l : List WEl) (i : Nat) (h : i < (absE l).length) : (absE l)[i] = ((l[i]'(by simpa [absE] using h)).ses, (l[i]'(by simpa [absE] using h)).pl) := by simp [absE]
theorem absE_length (l : List WEl) : (absE l).length = l.length := by simp [absE]
/-- What a record's value reads as. -/
theorem WRecAt.read {B : Nat} {w : World} {R : WRec} (h : WRecAt B w R) : ∃ a c, R.v = .slice a (absE R.el).length c ∧ SwRead w a (absE R.el) := by
  obtain ⟨v, el⟩ := R
  rw [absE_length]
  simp only
  rcases h.1.2 with ⟨h1, h2⟩ | ⟨g, cap, cur, h1, _⟩
  · simp only at h1 h2
    refine ⟨none, 0, by rw [h1, h2], fun hl => ?_⟩
    rw [absE_length] at hl
    omega
  · simp only at h1
    subst h1
    refine ⟨_, cap, rfl, fun _ => ?_⟩
    have ho : w.ownsRow B 102 2 (.slice (some ⟨g, 0, none⟩) el.length cap) el.length (elCells el) := h.1
    obtain ⟨f, hf, hle, hm, hfi⟩ := owns_row ho
    refine ⟨g, rfl, hf.lt, fun i hi => ?_⟩
    have hi' : i < el.length := by simpa [absE] using hi
    rw [elCells_length] at hle
    have a0 := hfi (i * 2) (by rw [elCells_length]; omega)
    have a1 := hfi (i * 2 + 1) (by rw [elCells_length]; omega)
    obtain ⟨e0, e1⟩ := elCells_at el i hi'
    rw [List.getElem?_eq_getElem (by rw [elCells_length]; omega)] at e0 e1
    rw [Option.some.inj e0] at a0
    rw [Option.some.inj e1] at a1
    rw [absE_at]
    have hP := h.2 el[i] (List.getElem_mem _)
    refine ⟨by rw [hf.cell (show i * 2 < cap * 2 by omega), a0], ?_⟩
    rw [hf.cell (show i * 2 + 1 < cap * 2 by omega), a1]
    rcases hP.form with ⟨p1, p2⟩ | ⟨g2, cap2, p1, p2, p3⟩
    · exact ⟨none, 0, by rw [p1, p2]; rfl, fun hl => by rw [p2] at hl; simp at hl⟩
    · exact ⟨_, cap2, by rw [p1], fun _ => ⟨g2, 0, rfl, p2, fun j hj => by rw [Nat.zero_add]; exact p3 j hj⟩⟩

def sw50Post (s : Int) (w : World) (e : Ending) (w' : World) : Prop := e = .returned (.int .i64 s) ∧ Below w.heap.size w w'
set_option maxHeartbeats 400000 in
theorem sw50 (s : Int) (a : Option Addr) (n c : Nat) (w : World) : Calls Try.prog 50 #[.agg #[.int .i64 s, .slice a n c]] w (sw50Post s w) := by
  go_enter Try.func50, Try.ntmps50
  go_wp2
  go_ret
  exact ⟨rfl, (Below.refl _ _).alloc (Nat.le_refl _) _⟩
theorem sw50_ext (s : Int) (a : Option Addr) (n c : Nat) {w : World} (p : Ext w) : Calls Try.prog 50 #[.agg #[.int .i64 s, .slice a n c]] p.val fun e w' => e = .returned (.int .i64 s) ∧ ∃ q : Ext w, w' = q.val :=
  (sw50 s a n c p.val).mono fun _ _ ⟨h1, h2⟩ => ⟨h1, p.grow h2⟩
def sw49Post (v : Value) (w : World) (e : Ending) (w' : World) : Prop := e = .returned v ∧ Below w.heap.size w w'
set_option maxHeartbeats 400000 in
theorem sw49 (s : Int) (a : Option Addr) (n c : Nat) (w : World) : Calls Try.prog 49 #[.agg #[.int .i64 s, .slice a n c]] w (sw49Post (.slice a n c) w) := by
  go_enter Try.func49, Try.ntmps49
  go_wp2
  go_ret
  exact ⟨rfl, (Below.refl _ _).alloc (Nat.le_refl _) _⟩

def true18 (w : World) (e : Ending) (w' : World) : Prop := e = .returned (.bool true) ∧ Below w.heap.size w w'
set_option maxHeartbeats 1000000 in
set_option maxRecDepth 20000 in
theorem same18 (a b : Option Addr) (c d : Nat) (E : List (Int × List Int)) (w : World) (hA : SwRead w a E) (hB : SwRead w b E) (hl : E.length ≤ 1048576) (hel : ∀ i (h : i < E.length), E[i].2.length ≤ 1048576) :
    Calls Try.prog 18 #[.slice a E.length c, .slice b E.length d] w (true18 w) := by
  have HA := hide hA
  have HB := hide hB
  have HEL := hide hel
  clear hA hB hel
  go_enter Try.func18, Try.ntmps18
  go_wp2
  go_loopw [16] (fun i wr => ∃ k : Nat, k ≤ E.length ∧ i = .int .i64 k ∧ Below w.heap.size w wr) (fun i _ => E.length - (intOf i).toNat)
  case atStart => exact ⟨0, Nat.zero_le _, rfl, Below.refl _ _⟩
  case round =>
    rename World => wr
    obtain ⟨k, hk, rfl, hW⟩ := hrel
    have HW := hide hW
    have hwr := hW.size
    clear hW
    by_cases hlt : k < E.length
    · obtain ⟨g1, rfl, hg1, hx1⟩ := HA.out (by omega)
      obtain ⟨g2, rfl, hg2, hx2⟩ := HB.out (by omega)
      obtain ⟨p1, pa, pc, p2, p3⟩ := hx1 k hlt
      obtain ⟨p4, qa, qc, p5, p6⟩ := hx2 k hlt
      have f1 := (HW.out.cell (p := ⟨g1, k * 2, none⟩) hg1).trans p1
      have f2 := (HW.out.cell (p := ⟨g1, k * 2 + 1, none⟩) hg1).trans p2
      have f3 := (HW.out.cell (p := ⟨g2, k * 2, none⟩) hg2).trans p4
      have f4 := (HW.out.cell (p := ⟨g2, k * 2 + 1, none⟩) hg2).trans p5
      have HI1 := hide p3
      have HI2 := hide p6
      have hpl := HEL.out k hlt
      generalize E[k].1 = s at f1 f3
      generalize E[k].2 = pl at f2 f4 HI1 HI2 hpl
      clear p1 p2 p3 p4 p5 p6 hx1 hx2
      have hg1r : g1 < wr.heap.size := by omega
      have hg2r : g2 < wr.heap.size := by omega
      have xc := @Ext.cell wr
      have xn := Ext.some wr
      have C50a := hide (fun (p : Ext wr) => sw50_ext s pa pl.length pc p)
      have C50b := hide (fun (p : Ext wr) => sw50_ext s qa pl.length qc p)
      have hki : (k : Int) < (E.length : Int) := by omega
      have hk0 : (0 : Int) ≤ (k : Int) := by omega
      go_upto_region 6 with fail
      refine wp_region_ext (by kernel_rfl) (by kernel_rfl) ?_
      repeat (go_big_quiet_step (first | exact C50a.out _ | exact C50b.out _))
      refine wpQuiet_nil ?_
      rintro _ ⟨px, rfl⟩
      have HPX := hide (HW.out.trans (px.prop.mono hwr))
      have z1 := (xc px g1 (k * 2) hg1r).trans f1
      have z2 := (xc px g1 (k * 2 + 1) hg1r).trans f2
      have z3 := (xc px g2 (k * 2) hg2r).trans f3
      have z4 := (xc px g2 (k * 2 + 1) hg2r).trans f4
      have hg1p : g1 < px.val.heap.size := Nat.lt_of_lt_of_le hg1r px.prop.size
      have hg2p : g2 < px.val.heap.size := Nat.lt_of_lt_of_le hg2r px.prop.size
      obtain ⟨wy, hwy⟩ : ∃ wy, wy = px.val := ⟨_, rfl⟩
      rw [← hwy] at HPX z1 z2 z3 z4 hg1p hg2p
      rw [← hwy]
      clear hwy xc xn C50a C50b f1 f2 f3 f4
      clear px
      go_upto_region 9 with (go_at_call 49; refine (sw49 _ _ _ _ _).mono ?_; rintro e w1 ⟨rfl, hB1⟩)
      rename World => w1
      have HB1 := hide hB1
      have y3 := (hB1.cell (p := ⟨g2, k * 2, none⟩) hg2p).trans z3
      have y4 := (hB1.cell (p := ⟨g2, k * 2 + 1, none⟩) hg2p).trans z4
      clear hB1 z1 z2 z3 z4
      go_upto_region 10 with (go_at_call 49; refine (sw49 _ _ _ _ _).mono ?_; rintro e w2 ⟨rfl, hB2⟩)
      rename World => w2
      have HY := hide (HPX.out.trans ((HB1.out.trans (hB2.mono HB1.out.size)).mono HPX.out.size))
      clear hB2 y3 y4 HB1 HPX
      go_wp2
      go_loopw [47] (fun i wr => ∃ j : Nat, j ≤ pl.length ∧ i = .int .i64 j ∧ Below w.heap.size w wr) (fun i _ => pl.length - (intOf i).toNat)
      case atStart => exact ⟨0, Nat.zero_le _, rfl, HY.out⟩
      case round =>
        rename World => wi
        obtain ⟨j, hj, rfl, hW⟩ := hrel
        have HWi := hide hW
        clear hW
        by_cases hjl : j < pl.length
        · obtain ⟨b1, o1, rfl, hb1, hy1⟩ := HI1.out (by omega)
          obtain ⟨b2, o2, rfl, hb2, hy2⟩ := HI2.out (by omega)
          have f1 := (HWi.out.cell (p := ⟨b1, o1 + j, none⟩) hb1).trans (hy1 j hjl)
          have f2 := (HWi.out.cell (p := ⟨b2, o2 + j, none⟩) hb2).trans (hy2 j hjl)
          generalize pl[j] = q at f1 f2
          have hji : (j : Int) < (pl.length : Int) := by omega
          have hj0 : (0 : Int) ≤ (j : Int) := by omega
          clear hy1 hy2
          go_wp2
          go_quiet (fail)
          go_wp2
          go_roundw
          case rel => exact ⟨j + 1, by omega, by go_num, below_drewN HWi.out _⟩
          case measure => simp [intOf]; omega
        · go_wp2
          go_roundw
          case rel => exact ⟨k + 1, by omega, by go_num, HWi.out⟩
          case measure => simp [intOf]; omega
    · go_wp2
      go_ret
      exact ⟨rfl, HW.out⟩
end Go.Proofs.Qxb6602646a
