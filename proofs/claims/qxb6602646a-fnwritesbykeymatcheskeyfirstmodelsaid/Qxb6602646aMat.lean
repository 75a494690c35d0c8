/-
  zzMatchKey (15).
-/
import Derived.Test.Qxb6602646aMatLaw
import Derived.Test.Qxb6602646aSame
import Derived.Test.Qxb6602646aKeys2
import Derived.Test.Qxb6602646aScr2
namespace Go.Proofs.Qxb6602646a
open Go.RowKit

def St (E : List (Int × List Int)) (v9 v10 v11 : Value) : Prop :=
  (E = [] ∧ v9 = .int .i64 (-1) ∧ v10 = .int .i64 0 ∧ v11 = .int .i64 (-1)) ∨ ∃ E0 s pl, ∃ n0 n1 : Nat, E = E0 ++ [(s, pl)] ∧ n0 = List.length E0 ∧ n1 = List.length pl ∧ v9 = .int .i64 (n0 : Int) ∧ v10 = .int .i64 (n1 : Int) ∧ v11 = .int .i64 s
def StN (E1 : List (Int × List Int)) (s p : Int) (v9 v10 v11 : Value) : Prop :=
  ∃ E0 pl, ∃ n0 n1 : Nat, E1 = E0 ++ [(s, pl ++ [p])] ∧ n0 = List.length E0 ∧ n1 = List.length pl ∧ v9 = .int .i64 (n0 : Int) ∧ v10 = .int .i64 (n1 : Int) ∧ v11 = .int .i64 s
def needM (E : List (Int × List Int)) (s : Int) : Bool := match E.getLast? with | none => true | some (q, _) => s != q
theorem needM_snoc (E : List (Int × List Int)) (q : Int) (pl : List Int) (s : Int) : needM (E ++ [(q, pl)]) s = (s != q) := by simp [needM]
theorem mstep_writes {T : List PTxn} {k : Int} {E : List (Int × List Int)} {m : PMen} (h : writesK (opsOf T m.t) k = true) : mstep T k E m = swApp m.s m.p E := by unfold mstep; rw [if_pos h]
theorem mstep_not {T : List PTxn} {k : Int} {E : List (Int × List Int)} {m : PMen} (h : writesK (opsOf T m.t) k = false) : mstep T k E m = E := by unfold mstep; rw [h]; rfl

set_option maxHeartbeats 1000000 in
set_option maxRecDepth 20000 in
theorem match15 (ea a ma : Option Addr) (ec c mc : Nat) (S : Nat → Prop) (E : List (Int × List Int)) (T : List PTxn) (ms : List PMen) (k : Int) (w : World) (hE : E = mApp T k ms) (hR : SwRead w ea E) (hT : TxnsAt S w a T) (hM : MenAt S w ma ms) (hS : ∀ b, S b → b < w.heap.size)
    (hTl : T.length ≤ 1048576) (hml : ms.length ≤ 4096) (hok : ∀ x ∈ ms, 0 ≤ x.t ∧ x.t < T.length) (hol : opsSum T ≤ 1048576) (hmp : ∀ x ∈ ms, x.p < 1048576) (hel : E.length ≤ 4096) (hei : ∀ i (h : i < E.length), E[i].2.length ≤ 4096) :
    Calls Try.prog 15 #[.slice ea E.length ec, .slice a T.length c, .slice ma ms.length mc, .int .i64 k] w (true18 w) := by
  have HE := hide hE
  have HR := hide hR
  have HT := hide hT
  have HM := hide hM
  have HS := hide hS
  have HOK := hide hok
  have HOL := hide hol
  have HMP := hide hmp
  have HEI := hide hei
  clear hE hR hT hM hS hok hol hmp hei
  obtain ⟨ne, hne⟩ : ∃ ne, ne = E.length := ⟨_, rfl⟩
  rw [← hne] at hel
  rw [← hne]
  have HNE := hide hne
  clear hne
  go_enter Try.func15, Try.ntmps15
  go_wp2
  go_loopw [9, 10, 11, 17] (fun v9 v10 v11 i wr => ∃ n : Nat, n ≤ ms.length ∧ i = .int .i64 n ∧ St (mApp T k (ms.take n)) v9 v10 v11 ∧ Below w.heap.size w wr) (fun _ _ _ i _ => ms.length - (intOf i).toNat)
  case atStart => exact ⟨0, Nat.zero_le _, rfl, .inl ⟨rfl, rfl, rfl, rfl⟩, Below.refl _ _⟩
  case round =>
    rename World => wr
    obtain ⟨n, hn, rfl, hSt, hW⟩ := hrel
    have HSt := hide hSt
    have HW := hide hW
    have hwr := hW.size
    clear hSt hW
    by_cases hlt : n < ms.length
    · obtain ⟨b, rfl, hbS, hx⟩ := HM.out (by omega)
      obtain ⟨g1, g2, g3⟩ := hx n hlt
      have hbw := HS.out b hbS
      have f1 := (HW.out.cell (p := ⟨b, n * 3, none⟩) hbw).trans g1
      have f2 := (HW.out.cell (p := ⟨b, n * 3 + 1, none⟩) hbw).trans g2
      have f3 := (HW.out.cell (p := ⟨b, n * 3 + 2, none⟩) hbw).trans g3
      have HSt1 := hide (mApp_take T k ms n hlt)
      have HGo := hide (goes_take T k ms (n + 1))
      have hpb := HMP.out ms[n] (List.getElem_mem _)
      obtain ⟨tn, ht1, htT⟩ : ∃ tn : Nat, ms[n].t = (tn : Int) ∧ tn < T.length := by
        have := HOK.out ms[n] (List.getElem_mem _)
        exact ⟨ms[n].t.toNat, by omega, by omega⟩
      have hops : opsOf T ms[n].t = T[tn].ops := by rw [ht1, opsOf_nat T tn htT]
      have HWy := hide (mstep_writes (T := T) (k := k) (E := mApp T k (ms.take n)) (m := ms[n]))
      have HWn := hide (mstep_not (T := T) (k := k) (E := mApp T k (ms.take n)) (m := ms[n]))
      rw [hops] at HWy HWn
      rw [ht1] at f3
      generalize mstep T k (mApp T k (ms.take n)) ms[n] = X at HSt1 HWy HWn
      generalize ms[n].s = ps at f1 HWy
      generalize ms[n].p = pp at f2 HWy hpb
      rw [HSt1.out, ← HE.out] at HGo
      obtain ⟨bt, offt, rfl, hbt, hxt⟩ := HT.out (by omega)
      have hbtw := HS.out bt hbt
      obtain ⟨p1, p2, ao, co, p3, p4⟩ := hxt tn htT
      have q1 := cal ((HW.out.cell (p := ⟨bt, offt + tn * 3, none⟩) hbtw).trans p1) (.cells #[.int .i64 (ps : Int), .int .i64 (pp : Int), .int .i64 (tn : Int)] 97)
      have q2 := cal ((HW.out.cell (p := ⟨bt, offt + tn * 3 + 1, none⟩) hbtw).trans p2) (.cells #[.int .i64 (ps : Int), .int .i64 (pp : Int), .int .i64 (tn : Int)] 97)
      have q3 := cal ((HW.out.cell (p := ⟨bt, offt + tn * 3 + 2, none⟩) hbtw).trans p3) (.cells #[.int .i64 (ps : Int), .int .i64 (pp : Int), .int .i64 (tn : Int)] 97)
      have hBx : Below wr.heap.size wr (wr.alloc (.cells #[.int .i64 (ps : Int), .int .i64 (pp : Int), .int .i64 (tn : Int)] 97)) := (Below.refl _ _).alloc (Nat.le_refl _) _
      have hBw := HW.out.trans (hBx.mono hwr)
      have C36 := hide (writesKey36 S T[tn].id T[tn].ses ao co T[tn].ops k (wr.alloc (.cells #[.int .i64 (ps : Int), .int .i64 (pp : Int), .int .i64 (tn : Int)] 97)) (p4.kept (fun x hx => hBw.block x (HS.out x hx))) (fun x hx => Nat.lt_of_lt_of_le (HS.out x hx) hBw.size) (Nat.le_trans (opsSum_at T tn htT) HOL.out))
      have HBw := hide hBw
      obtain ⟨t, ht⟩ : ∃ t, t = T[tn] := ⟨_, rfl⟩
      rw [← ht] at q1 q2 q3 C36 HWy HWn
      have i1 : (tn : Int) < (T.length : Int) := by omega
      have i2 : (0 : Int) ≤ (tn : Int) := by omega
      have hb4 : bt ≠ wr.heap.size := by omega
      have hb5 : bt < wr.heap.size := by omega
      clear g1 g2 g3 hx p1 p2 p3 p4 hxt ht ht1 hops hBw
      generalize t.ops.length = nol at q3 C36
      by_cases hw : writesK t.ops k = true
      · have HX := hide (HWy.out hw)
        rw [hw] at C36
        clear HWy HWn hw
        go_upto_region 8 with (go_at_call 36; refine C36.out.mono ?_; rintro e wX ⟨rfl, hBX⟩)
        rename World => wX
        have z0 := (hBX.cell (p := ⟨wr.heap.size, 0, none⟩) (by simp)).trans (cell_box wr _ 97 0 _ rfl)
        have z1 := (hBX.cell (p := ⟨wr.heap.size, 1, none⟩) (by simp)).trans (cell_box wr _ 97 1 _ rfl)
        have hbxl : wr.heap.size < wX.heap.size := by have := hBX.size; simp at this; omega
        have HBX := hide (HBw.out.trans (hBX.mono HBw.out.size))
        have hszX := HBX.out.size
        obtain ⟨bx, hbx⟩ : ∃ bx, bx = wr.heap.size := ⟨_, rfl⟩
        rw [← hbx] at z0 z1 hbxl
        rw [← hbx]
        clear hBX hbx hBx HBw C36 q1 q2 q3 f1 f2 f3 HW hwr hb4 hb5
        clear wr
        obtain ⟨Ei, hEi⟩ : ∃ Ei, Ei = mApp T k (ms.take n) := ⟨_, rfl⟩
        rw [← hEi] at HSt HX
        clear hEi
        go_cut [36] from 18 to 88 (fun v wd => wd = wX ∧ v = .bool (needM Ei (ps : Int)))
        case first =>
          rcases HSt.out with ⟨he, rfl, rfl, rfl⟩ | ⟨E0, q, pl, n0, n1, he, hn0, hn1, rfl, rfl, rfl⟩
          · subst he
            go_wp2
            go_meet
            case rel => exact ⟨rfl, rfl⟩
          · have HD := hide (needM_snoc E0 q pl (ps : Int))
            rw [← he] at HD
            have hd : decide ((n0 : Int) < 0) = false := by simp
            clear he hn0 hn1
            go_wp2
            go_meet
            case rel => exact ⟨rfl, by rw [HD.out]⟩
        case rest =>
          obtain ⟨hwc, rfl⟩ := hcut
          obtain rfl : wX = wc := hwc.symm
          go_upto_if 36 with fail
          go_cut [9, 10, 11] from 18 to 88 (fun v9 v10 v11 wd => StN X (ps : Int) (pp : Int) v9 v10 v11 ∧ Below wX.heap.size wX wd)
          case first =>
            rcases HSt.out with ⟨he, rfl, rfl, rfl⟩ | ⟨E0, q, pl, n0, n1, he, hn0, hn1, rfl, rfl, rfl⟩
            · subst he
              have hX : X = [] ++ [((ps : Int), [] ++ [(pp : Int)])] := HX.out
              have HX2 := hide hX
              rw [hX] at HGo
              obtain ⟨y1, y3, y2, y4⟩ := goes_at HGo.out (n0 := 0) (n1 := 0) rfl rfl
              obtain ⟨g, rfl, hg, hxE⟩ := HR.out (by omega)
              obtain ⟨r1, pa, pc, r2, r3⟩ := hxE 0 y1
              rw [y3] at r1
              have s1 := (HBX.out.cell (p := ⟨g, 0 * 2, none⟩) hg).trans r1
              have s2 := (HBX.out.cell (p := ⟨g, 0 * 2 + 1, none⟩) hg).trans r2
              simp only [Nat.zero_mul, Nat.zero_add] at s1 s2
              generalize E[0].2.length = n2 at s2
              have xc := @Ext.cell wX
              have xn := Ext.some wX
              have C50 := hide (fun (p : Ext wX) => sw50_ext (ps : Int) pa n2 pc p)
              have hgX : g < wX.heap.size := by omega
              have hy1 : 0 < ne := by rw [HNE.out]; exact y1
              have hE0 : (0 : Int) < (ne : Int) := by omega
              have hd : decide ((ne : Int) ≤ 0) = false := by simp; omega
              have hd2 : decide (ne = 0) = false := by simp; omega
              clear r1 r2 r3 hxE y2 y4
              clear y3
              clear y1 hX HGo
              have hnb : needM [] (ps : Int) = true := rfl
              rw [hnb]
              go_wp2_with fail
              refine wp_region_ext (by kernel_rfl) (by kernel_rfl) ?_
              repeat (go_big_quiet_step (exact C50.out _))
              refine wpQuiet_nil ?_
              rintro _ ⟨px, rfl⟩
              have u0 := (xc px bx 0 hbxl).trans z0
              go_wp2_with fail
              go_meet
              case rel => exact ⟨⟨[], [], 0, 0, HX2.out, rfl, rfl, rfl, rfl, rfl⟩, px.prop⟩
            · by_cases hq : q = (ps : Int)
              · subst hq
                have hX : X = E0 ++ [((ps : Int), pl ++ [(pp : Int)])] := by rw [HX.out, he, swApp_same]
                have HX2 := hide hX
                have hnb : needM Ei (ps : Int) = false := by rw [he, needM_snoc]; simp
                rw [hnb]
                have HN0 := hide hn0
                have HN1 := hide hn1
                clear he hX hn0 hn1
                go_wp2_with fail
                go_meet
                case rel => exact ⟨⟨E0, pl, n0, n1, HX2.out, HN0.out, HN1.out, rfl, rfl, rfl⟩, Below.refl _ _⟩
              · have hX : X = E0 ++ [(q, pl)] ++ [((ps : Int), [(pp : Int)])] := by rw [HX.out, he, swApp_other _ _ _ _ _ hq]
                have hX2 : X = (E0 ++ [(q, pl)]) ++ [((ps : Int), [] ++ [(pp : Int)])] := by rw [hX]; rfl
                have HX2 := hide hX2
                have hnb : needM Ei (ps : Int) = true := by rw [he, needM_snoc]; simp; omega
                rw [hnb]
                have hG1 := HGo.out
                rw [hX] at hG1
                obtain ⟨y5, y6⟩ := goes_whole hG1 hn0 hn1
                obtain ⟨y1, y3, y2, y4⟩ := goes_at (hX2 ▸ HGo.out) (n0 := n0 + 1) (n1 := 0) (by rw [hn0]; simp) rfl
                obtain ⟨g, rfl, hg, hxE⟩ := HR.out (by omega)
                obtain ⟨r1, pa, pc, r2, r3⟩ := hxE n0 y5
                obtain ⟨r4, qa, qc, r5, r6⟩ := hxE (n0 + 1) y1
                rw [y6] at r2
                rw [y3] at r4
                have s1 := (HBX.out.cell (p := ⟨g, n0 * 2, none⟩) hg).trans r1
                have s2 := (HBX.out.cell (p := ⟨g, n0 * 2 + 1, none⟩) hg).trans r2
                have s3 := (HBX.out.cell (p := ⟨g, (n0 + 1) * 2, none⟩) hg).trans r4
                have s4 := (HBX.out.cell (p := ⟨g, (n0 + 1) * 2 + 1, none⟩) hg).trans r5
                have HN0 : Hid (n0 + 1 = (E0 ++ [(q, pl)]).length) := by show _ = _; rw [hn0]; simp
                have hl1 : n1 ≤ 4096 := by rw [← y6]; exact HEI.out n0 y5
                generalize E[n0].1 = e1 at s1
                generalize E[n0 + 1].2.length = n2 at s4
                have hgX : g < wX.heap.size := by omega
                have hy1 : n0 + 1 < ne := by rw [HNE.out]; exact y1
                clear r1 r2 r3 r4 r5 r6 hxE y2 y4
                clear y6 y3 hX hX2 hG1 HGo hn0 hn1 he hnb
                clear y1 y5
                have hge : decide ((0 : Int) ≤ (n0 : Int)) = true := by simp
                have hi0 : (n0 : Int) < (ne : Int) := by omega
                have hi1 : (0 : Int) ≤ (n0 : Int) := by omega
                go_upto_region 11 with (go_at_call 49; refine (sw49 _ _ _ _ _).mono ?_; rintro e wY ⟨rfl, hBY⟩)
                rename World => wY
                have t3 := (hBY.cell (p := ⟨g, (n0 + 1) * 2, none⟩) hgX).trans s3
                have t4 := (hBY.cell (p := ⟨g, (n0 + 1) * 2 + 1, none⟩) hgX).trans s4
                have w0 := (hBY.cell (p := ⟨bx, 0, none⟩) hbxl).trans z0
                have hszY := hBY.size
                have HBY := hide hBY
                have hgY : g < wY.heap.size := by omega
                have hbY : bx < wY.heap.size := by omega
                clear s1 s2 s3 s4 hBY hge
                have xc := @Ext.cell wY
                have xn := Ext.some wY
                have C50 := hide (fun (p : Ext wY) => sw50_ext (ps : Int) qa n2 qc p)
                obtain ⟨n3, hn3⟩ : ∃ n3, n3 = n0 + 1 := ⟨_, rfl⟩
                have hwi : IntKind.i64.wrap ((n0 : Int) + 1) = (n3 : Int) := by rw [IntKind.wrap_i64, hn3]; omega
                rw [← hn3] at t3 t4 HN0 hy1
                have hi3 : (n3 : Int) < (ne : Int) := by omega
                have hi4 : (0 : Int) ≤ (n3 : Int) := by omega
                have hd : decide ((ne : Int) ≤ (n3 : Int)) = false := by simp; omega
                have hd2 : decide (ne ≤ n3) = false := by simp; omega
                have hcast : (n0 : Int) + 1 = (n3 : Int) := by omega
                clear hn3 hi0 hi1
                go_wp2_with fail
                refine wp_region_ext (by kernel_rfl) (by kernel_rfl) ?_
                repeat (go_big_quiet_step (exact C50.out _))
                refine wpQuiet_nil ?_
                rintro _ ⟨px, rfl⟩
                have u0 := (xc px bx 0 hbY).trans w0
                go_wp2_with fail
                go_meet
                case rel => exact ⟨⟨E0 ++ [(q, pl)], [], n3, 0, HX2.out, HN0.out, rfl, rfl, rfl, rfl⟩, HBY.out.trans (px.prop.mono hszY)⟩
          case rest =>
            rename World => wd
            obtain ⟨⟨E0, pl, n0, n1, hX, hn0, hn1, rfl, rfl, rfl⟩, hBd⟩ := hcut
            have HX2 := hide hX
            obtain ⟨y1, y3, y2, y4⟩ := goes_at (hX ▸ HGo.out) hn0 hn1
            obtain ⟨g, rfl, hg, hxE⟩ := HR.out (by omega)
            obtain ⟨r1, pa, pc, r2, r3⟩ := hxE n0 y1
            obtain ⟨b2, o2, rfl, hb2, hy2⟩ := r3 (by omega)
            have r4 := hy2 n1 y2
            rw [y4] at r4
            have HBd := hide (HBX.out.trans (hBd.mono hszX))
            have s1 := (HBd.out.cell (p := ⟨g, n0 * 2, none⟩) hg).trans r1
            have s2 := (HBd.out.cell (p := ⟨g, n0 * 2 + 1, none⟩) hg).trans r2
            have s3 := (HBd.out.cell (p := ⟨b2, o2 + n1, none⟩) hb2).trans r4
            have s4 := (hBd.cell (p := ⟨bx, 1, none⟩) hbxl).trans z1
            have hbd : bx < wd.heap.size := Nat.lt_of_lt_of_le hbxl hBd.size
            have hszd := HBd.out.size
            have hl2 : (E[n0]).2.length ≤ 4096 := HEI.out n0 y1
            have hy1 : n0 < ne := by rw [HNE.out]; exact y1
            have hy3 : n1 < (E[n0]).2.length := y2
            generalize (E[n0]).1 = e1 at s1
            clear hy2 r1 r2 r3 r4 hxE y4
            generalize (E[n0]).2.length = n2 at s2 hl2 hy3
            have HN0 := hide hn0
            have HN1 := hide hn1
            clear y2 y3 hX hBd hn0 hn1 HSt HX HGo z0 z1
            clear y1
            have hi0 : (n0 : Int) < (ne : Int) := by omega
            have hi1 : (0 : Int) ≤ (n0 : Int) := by omega
            have hi2 : (n1 : Int) < (n2 : Int) := by omega
            have hi3 : (0 : Int) ≤ (n1 : Int) := by omega
            have hd : decide ((n2 : Int) ≤ (n1 : Int)) = false := by simp; omega
            have hwp : IntKind.i64.wrap (pp : Int) = (pp : Int) := by rw [IntKind.wrap_i64]; omega
            have hgd : g < wd.heap.size := by omega
            have hbd2 : b2 < wd.heap.size := by omega
            go_upto_region 17 with (go_at_call 49; refine (sw49 _ _ _ _ _).mono ?_; rintro e wY ⟨rfl, hBY⟩)
            rename World => wY
            have t3 := (hBY.cell (p := ⟨b2, o2 + n1, none⟩) hbd2).trans s3
            have t4 := (hBY.cell (p := ⟨bx, 1, none⟩) hbd).trans s4
            have HBY := hide (HBd.out.trans (hBY.mono hszd))
            clear s1 s2 s3 s4 hBY
            go_quiet (fail)
            go_wp2_with fail
            go_roundw
            case rel => exact ⟨n + 1, by omega, by go_num, .inr ⟨E0, ps, pl ++ [(pp : Int)], n0, n1 + 1, by rw [HSt1.out]; exact HX2.out, HN0.out, by rw [HN1.out]; simp, rfl, by go_num, rfl⟩, below_drewN HBY.out _⟩
            case measure => simp [intOf]; omega
      · have hw0 : writesK t.ops k = false := by simpa using hw
        have HX := hide (HWn.out hw0)
        rw [hw0] at C36
        clear HWy HWn hw hw0
        go_wp2_with (go_at_call 36; refine C36.out.mono ?_; rintro e wX ⟨rfl, hBX⟩; have HBX := hide hBX; clear hBX)
        go_roundw
        case rel => exact ⟨n + 1, by omega, by go_num, by rw [HSt1.out, HX.out]; exact HSt.out, HBw.out.trans (HBX.out.mono HBw.out.size)⟩
        case measure => simp [intOf]; omega
    · obtain rfl : n = ms.length := by omega
      have hSt := HSt.out
      rw [List.take_length, ← HE.out] at hSt
      rcases hSt with ⟨he, rfl, rfl, rfl⟩ | ⟨E0, q, pl, n0, n1, he, hn0, hn1, rfl, rfl, rfl⟩
      · obtain rfl : ne = 0 := by rw [HNE.out, he]; rfl
        go_wp2_with fail
        go_ret
        exact ⟨rfl, HW.out⟩
      · have hnn : ne = n0 + 1 := by rw [HNE.out, he, hn0]; simp
        have y1 : n0 < E.length := by rw [← HNE.out]; omega
        have y2 : (E[n0]).2.length = n1 := by
          subst he hn0 hn1
          simp
        obtain ⟨g, rfl, hg, hxE⟩ := HR.out (by omega)
        obtain ⟨r1, pa, pc, r2, r3⟩ := hxE n0 y1
        rw [y2] at r2
        have s1 := (HW.out.cell (p := ⟨g, n0 * 2, none⟩) hg).trans r1
        have s2 := (HW.out.cell (p := ⟨g, n0 * 2 + 1, none⟩) hg).trans r2
        have hl1 : n1 ≤ 4096 := by rw [← y2]; exact HEI.out n0 y1
        generalize E[n0].1 = e1 at s1
        have hge : decide ((0 : Int) ≤ (n0 : Int)) = true := by simp
        have hi0 : (n0 : Int) < (ne : Int) := by omega
        have hi1 : (0 : Int) ≤ (n0 : Int) := by omega
        have hwi : IntKind.i64.wrap ((n0 : Int) + 1) = (ne : Int) := by rw [IntKind.wrap_i64, hnn]; omega
        have hcast : (n0 : Int) + 1 = (ne : Int) := by omega
        clear r1 r2 r3 hxE he hn0 hn1 hnn
        clear y2
        clear y1
        go_wp2_with (go_at_call 49; refine (sw49 _ _ _ _ _).mono ?_; rintro e wY ⟨rfl, hBY⟩; have HBY := hide hBY; clear hBY)
        go_ret
        exact ⟨by simp, HW.out.trans (HBY.out.mono hwr)⟩
end Go.Proofs.Qxb6602646a
