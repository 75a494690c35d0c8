/-
  writesByKey, its walk.
-/
import Derived.Test.Qxb6602646aWbw
namespace Go.Proofs.Qxb6602646a
open Go.RowKit

theorem info102 : (Try.prog.info? 102).map (fun i => (i.zero, i.size, i.bytes)) = some (some (.agg #[.int .i64 0, .slice none 0 0]), 2, 32) := by kernel_rfl
theorem info21 : (Try.prog.info? 21).map (fun i => (i.zero, i.size, i.bytes)) = some (some (.int .i32 0), 1, 4) := by kernel_rfl
def txL (SS : List PSes) : List (List Int) := SS.map fun s => s.txns
theorem txL_at (SS : List PSes) (k : Nat) (h : k < SS.length) : (txL SS).getD k [] = SS[k].txns := by simp [txL, h]
theorem txL_length (SS : List PSes) : (txL SS).length = SS.length := by simp [txL]
theorem getD_at (l : List Int) (m : Nat) (h : m < l.length) : l.getD m 0 = l[m] := by simp [h]
def wbPost (T : List PTxn) (SS : List PSes) (w : World) (e : Ending) (w' : World) : Prop :=
  ∃ mb recs, e = .returned (.map (some mb)) ∧ WbAt w.heap.size w w' mb recs ∧ absW recs = wbOf (seF T (txL SS) SS.length) ∧ LenW 4096 recs
theorem wb_start (w : World) : WbIn w.heap.size w w.heap.size [] (w.alloc (.map #[] 0)) := by
  refine ⟨[], ⟨MapAt.made ikey w, fun p hp => by simp at hp, by simp [outs], by simp [inns], by simp, Nat.le_refl _, (Below.refl _ _).alloc (Nat.le_refl _) _⟩, rfl, fun p hp => by simp at hp⟩
theorem WbIn.bel {B : Nat} {w wr : World} {mb : Nat} {F : List Ev} (h : WbIn B w mb F wr) : Below B w wr := by
  obtain ⟨recs, h1, _⟩ := h
  exact h1.bel
theorem opbox (wr : World) (o : POp) : (wr.alloc (.cells #[.int .u8 o.kind, .int .i64 o.key, .int .i64 o.val] 92)).rowIs wr.heap.size 92 3 (opcW o) := by
  refine ⟨_, (MapKept.heap_alloc wr _).1, rfl, fun i hi => ?_⟩
  match i, hi with
  | 0, _ => rfl
  | 1, _ => rfl
  | 2, _ => rfl

def needNew (l : List WEl) (s : Int) : Bool := match l.getLast? with | none => true | some e => e.ses != s
theorem needNew_nil (s : Int) : needNew [] s = true := rfl
theorem needNew_snoc (l : List WEl) (e : WEl) (s : Int) : needNew (l ++ [e]) s = (e.ses != s) := by simp [needNew]
theorem absE_snoc (l : List WEl) (e : WEl) : absE (l ++ [e]) = absE l ++ [(e.ses, e.pl)] := by simp [absE]
theorem snoc_cases {α : Type} (l : List α) : l = [] ∨ ∃ a e, l = a ++ [e] := by
  cases h : l.reverse with
  | nil => exact .inl (by simpa using h)
  | cons e a => exact .inr ⟨a.reverse, e, by have := congrArg List.reverse h; simpa using this⟩
theorem swAdd_new {l : List WEl} {s : Int} (p : Int) (h : needNew l s = true) : swAdd s p (absE l) = absE l ++ [(s, snocP [] p)] := by
  rcases snoc_cases l with rfl | ⟨a, e, rfl⟩
  · rfl
  · rw [needNew_snoc] at h
    rw [absE_snoc, swAdd_snoc_other _ _ _ _ _ (by simpa using h)]
    rfl
theorem swAdd_old (l : List WEl) (s p : Int) (pv : Value) (pl : List Int) : swAdd s p (absE (l ++ [⟨s, pv, pl⟩])) = absE l ++ [(s, snocP pl p)] := by
  rw [absE_snoc, swAdd_snoc_same]
section
variable {B : Nat} {w0 w : World} {mb : Nat} {L : List (Int × Value)} {A : List (Int × List (Int × List Int))} {N : Nat} {o : POp} {bx : Nat} {R : WRec} {l1 l2 : List (Int × WRec)}
theorem WIn.form (h : WIn B w0 w mb L A N o bx R l1 l2) {els : List WEl} {e : WEl} (he : R.el = els ++ [e]) : ∃ gv capv, R = ⟨.slice (some ⟨gv, 0, none⟩) (els.length + 1) capv, els ++ [e]⟩ := by
  obtain ⟨v, el⟩ := R
  simp only at he
  subst he
  have hl : (els ++ [e]).length = els.length + 1 := by simp
  rcases h.mid.own.1.2 with ⟨_, h2⟩ | ⟨g, cap, cur, h1, _⟩
  · rw [hl] at h2; omega
  · simp only at h1
    rw [hl] at h1
    exact ⟨g, cap, by rw [h1]⟩
theorem POwn.form {v : Value} {l : List Int} (h : POwn B w v l) : (v = .slice none 0 0 ∧ l = []) ∨ ∃ g cap, v = .slice (some ⟨g, 0, none⟩) l.length cap ∧ g < w.heap.size ∧ ∀ i (hi : i < l.length), w.cell? ⟨g, i, none⟩ = some (.int .i32 l[i]) := by
  rcases h.2 with ⟨rfl, h2⟩ | ⟨g, cap, cur, rfl, _⟩
  · exact .inl ⟨rfl, List.eq_nil_of_length_eq_zero h2⟩
  · obtain ⟨f, h1, h2, h3, h4⟩ := owns_row h
    refine .inr ⟨g, cap, rfl, h1.lt, fun i hi => ?_⟩
    rw [h1.cell (by rw [List.length_map] at h2; omega), h4 i (by simpa using hi)]
    simp
/-- Behind the places' append: the element's own cell. -/
theorem WIn.after {gv capv : Nat} {els : List WEl} {s : Int} {pv : Value} {pl : List Int} (h : WIn B w0 w mb L A N o bx ⟨.slice (some ⟨gv, 0, none⟩) (els.length + 1) capv, els ++ [⟨s, pv, pl⟩]⟩ l1 l2) {W w1 : World} (hW : Below w.heap.size w W)
    (hg : W.grownBy w1 pv.ownBlock) : w1.cell? ⟨gv, els.length * 2 + 1, none⟩ = some pv ∧ w1.frozen? ⟨gv, els.length * 2 + 1, none⟩ = false := by
  have h2 := h.grow hW
  obtain ⟨a1, _, a3, a4, a5, _⟩ := h2.last
  have hne : some gv ≠ pv.ownBlock := fun e => owns_ne h2.mid.own.1 a5 (by decide) rfl e.symm rfl
  exact ⟨(hg.cell_far ⟨gv, els.length * 2 + 1, none⟩ a1 hne).trans a3, (hg.frozen_far ⟨gv, els.length * 2 + 1, none⟩ a1 hne).trans a4⟩
end
/-- The last element is the session's. -/
def WNew (B : Nat) (w0 : World) (mb : Nat) (L : List (Int × Value)) (A : List (Int × List (Int × List Int))) (N : Nat) (o : POp) (bx : Nat) (el : List WEl) (l1 l2 : List (Int × WRec)) (s p : Int) (v : Value) (wc : World) : Prop :=
  ∃ gv capv els pv pl, v = .slice (some ⟨gv, 0, none⟩) (List.length els + 1) capv ∧ WIn B w0 wc mb L A N o bx ⟨.slice (some ⟨gv, 0, none⟩) (els.length + 1) capv, els ++ [⟨s, pv, pl⟩]⟩ l1 l2 ∧
    swAdd s p (absE el) = absE els ++ [(s, snocP pl p)] ∧ els.length ≤ N ∧ (∀ e ∈ els, e.pl.length ≤ N) ∧ pl.length ≤ N
/-- And it has the place. -/
def WDone (B : Nat) (w0 : World) (mb : Nat) (L : List (Int × Value)) (A : List (Int × List (Int × List Int))) (N : Nat) (o : POp) (bx : Nat) (el : List WEl) (l1 l2 : List (Int × WRec)) (s p : Int) (v : Value) (wc : World) : Prop :=
  ∃ R', R'.v = v ∧ WIn B w0 wc mb L A N o bx R' l1 l2 ∧ swAdd s p (absE el) = absE R'.el ∧ LenR (N + 1) R'
theorem wdone_of {B : Nat} {w0 wc : World} {mb : Nat} {L : List (Int × Value)} {A : List (Int × List (Int × List Int))} {N : Nat} {o : POp} {bx : Nat} {el : List WEl} {l1 l2 : List (Int × WRec)} {s p : Int} {gv capv : Nat} {els : List WEl} {pv : Value} {pl pl' : List Int}
    (h : WIn B w0 wc mb L A N o bx ⟨.slice (some ⟨gv, 0, none⟩) (els.length + 1) capv, els ++ [⟨s, pv, pl'⟩]⟩ l1 l2) (hs : swAdd s p (absE el) = absE els ++ [(s, snocP pl p)]) (he : pl' = snocP pl p) (h1 : els.length ≤ N) (h2 : ∀ e ∈ els, e.pl.length ≤ N) (h3 : pl.length ≤ N) :
    WDone B w0 mb L A N o bx el l1 l2 s p (.slice (some ⟨gv, 0, none⟩) (els.length + 1) capv) wc := by
  refine ⟨_, rfl, h, ?_, ?_, fun e he' => ?_⟩
  · rw [hs, absE_snoc, he]
  · simp; exact h1
  · rcases List.mem_append.1 he' with he' | he'
    · exact Nat.le_succ_of_le (h2 e he')
    · simp at he'
      subst he'
      subst he
      show (snocP pl p).length ≤ N + 1
      unfold snocP
      split
      · omega
      · simp; omega

set_option maxHeartbeats 1000000 in
set_option maxRecDepth 20000 in
theorem wb_any (db hb tc sc : Nat) (ta sa : Option Addr) (T : List PTxn) (SS : List PSes) (w : World) (c0 : w.cell? ⟨db, 0, none⟩ = some (.pointer (some ⟨hb, 0, none⟩))) (c1 : w.cell? ⟨hb, 0, none⟩ = some (.slice ta T.length tc))
    (c2 : w.cell? ⟨hb, 1, none⟩ = some (.slice sa SS.length sc)) (hT : TxnsAt (· < w.heap.size) w ta T) (hSS : SessAt (· < w.heap.size) w sa SS) (hTl : T.length ≤ 1048576) (hSl : SS.length ≤ 1048576)
    (hsl : ∀ k (h : k < SS.length), SS[k].txns.length ≤ 1048576) (hok : ∀ k (h : k < SS.length), ∀ t ∈ SS[k].txns, 0 ≤ t ∧ t < T.length) (hev : (seF T (txL SS) SS.length).length ≤ 4096) :
    Calls Try.prog 47 #[.pointer (some ⟨db, 0, none⟩)] w (wbPost T SS w) := by
  have HT := hide hT
  have HSS := hide hSS
  have HSL := hide hsl
  have HOK := hide hok
  have HEV := hide hev
  have hdb := World.block_lt_of_cell? w _ c0
  have hhb := World.block_lt_of_cell? w _ c1
  simp only at hdb hhb
  clear hT hSS hsl hok hev
  have HC0 := hide c0
  have HC1 := hide c1
  have HC2 := hide c2
  have e0 := cal c0 (.map #[] 0)
  have e2 := cal c2 (.map #[] 0)
  have mkm := mk_map
  clear c0 c1 c2
  go_enter Try.func47, Try.ntmps47
  go_wp2
  clear e0 e2
  go_loopw [22] (fun i wr => ∃ k : Nat, k ≤ SS.length ∧ i = .int .i64 k ∧ WbIn w.heap.size w w.heap.size (seF T (txL SS) k) wr) (fun i _ => SS.length - (intOf i).toNat)
  case atStart => exact ⟨0, Nat.zero_le _, rfl, wb_start w⟩
  case round =>
    rename World => wo
    obtain ⟨k, hk, rfl, hW⟩ := hrel
    have HW := hide hW
    have hwo := hW.bel.size
    clear hW
    by_cases hlt : k < SS.length
    · obtain ⟨b, off, rfl, hbS, hx⟩ := HSS.out (by omega)
      obtain ⟨g1, a', c', g2, g3⟩ := hx k hlt
      have f1 := (HW.out.bel.cell (p := ⟨b, off + k * 2, none⟩) hbS).trans g1
      have f2 := (HW.out.bel.cell (p := ⟨b, off + k * 2 + 1, none⟩) hbS).trans g2
      have HG := hide g3
      have hxl := HSL.out k hlt
      have HOKk := hide (HOK.out k hlt)
      have HXk := hide (txL_at SS k hlt)
      obtain ⟨x, hx0⟩ : ∃ x, x = SS[k] := ⟨_, rfl⟩
      rw [← hx0] at f1 f2 HG hxl HOKk HXk
      have hb2 : b < wo.heap.size := Nat.lt_of_lt_of_le hbS hwo
      clear g1 g2 g3 hx hx0
      go_wp2
      go_loopw [30] (fun i wr => ∃ m : Nat, m ≤ x.txns.length ∧ i = .int .i64 m ∧ WbIn w.heap.size w w.heap.size (atF T (txL SS) k m 0) wr) (fun i _ => x.txns.length - (intOf i).toNat)
      case atStart => exact ⟨0, Nat.zero_le _, rfl, by rw [atF_start]; exact HW.out.grow ((Below.refl _ _).alloc (Nat.le_refl _) _)⟩
      case round =>
        rename World => wp
        obtain ⟨m, hm, rfl, hW⟩ := hrel
        have HWp := hide hW
        have hwp := hW.bel.size
        clear hW f1 f2
        by_cases hml : m < x.txns.length
        · obtain ⟨b', off', rfl, hbS', hx'⟩ := HG.out (by omega)
          have q1 := (HWp.out.bel.cell (p := ⟨b', off' + m, none⟩) hbS').trans (hx' m hml)
          clear hx'
          have HXm := hide (getD_at x.txns m hml)
          obtain ⟨tn, htn⟩ : ∃ tn : Nat, x.txns[m] = (tn : Int) ∧ tn < T.length := by
            have := HOKk.out x.txns[m] (List.getElem_mem _)
            exact ⟨x.txns[m].toNat, by omega, by omega⟩
          obtain ⟨ht1, htT⟩ := htn
          rw [ht1] at q1 HXm
          obtain ⟨bt, offt, hta, hbt, hxt⟩ := HT.out (by omega)
          have q2 := (HWp.out.bel.cell (p := ⟨db, 0, none⟩) hdb).trans HC0.out
          have q3 := (HWp.out.bel.cell (p := ⟨hb, 0, none⟩) hhb).trans HC1.out
          rw [hta] at q3
          obtain ⟨_, _, ao, co, p3, p4⟩ := hxt tn htT
          have q4 := (HWp.out.bel.cell (p := ⟨bt, offt + tn * 3 + 2, none⟩) hbt).trans p3
          have HOp := hide (opsOf_nat T tn htT)
          have HGo := hide p4
          have hol : T[tn].ops.length ≤ 4096 := by
            have e1 := HEV.out
            rw [← txL_length SS] at e1
            by_cases h0 : 0 < T[tn].ops.length
            · have e2 := atF_le T (txL SS) (k := k) (m := m) (i := T[tn].ops.length - 1) (by rw [txL_length]; exact hlt) (by rw [HXk.out]; exact hml) (by rw [HXk.out, HXm.out, HOp.out]; omega)
              unfold atF at e2
              rw [List.length_append, List.length_map, List.length_take, HXk.out, HXm.out, HOp.out] at e2
              omega
            · omega
          have HIx : Hid (opsOf T (((txL SS).getD k []).getD m 0) = T[tn].ops) := by
            show _ = _
            rw [HXk.out, HXm.out, HOp.out]
          obtain ⟨t, ht⟩ : ∃ t, t = T[tn] := ⟨_, rfl⟩
          rw [← ht] at q4 HGo hol HIx
          have i1 : (tn : Int) < (T.length : Int) := by omega
          have i2 : (0 : Int) ≤ (tn : Int) := by omega
          clear p3 p4 hxt HXm HOp ht ht1
          go_wp2
          go_loopw [47] (fun i wr => ∃ j : Nat, j ≤ t.ops.length ∧ i = .int .i64 j ∧ WbIn w.heap.size w w.heap.size (atF T (txL SS) k m j) wr) (fun i _ => t.ops.length - (intOf i).toNat)
          case atStart => exact ⟨0, Nat.zero_le _, rfl, HWp.out⟩
          case round =>
            rename World => wr
            obtain ⟨j, hj, rfl, hW⟩ := hrel
            have HWr := hide hW
            have hwr := hW.bel.size
            clear hW q1 q2 q3 q4
            by_cases hjl : j < t.ops.length
            · obtain ⟨bo, offo, rfl, hbo, hxo⟩ := HGo.out (by omega)
              obtain ⟨p1, p2, p3⟩ := hxo j hjl
              have q1 := (HWr.out.bel.cell (p := ⟨bo, offo + j * 3, none⟩) hbo).trans p1
              have q2 := (HWr.out.bel.cell (p := ⟨bo, offo + j * 3 + 1, none⟩) hbo).trans p2
              have q3 := (HWr.out.bel.cell (p := ⟨bo, offo + j * 3 + 2, none⟩) hbo).trans p3
              have HSn : Hid (atF T (txL SS) k m (j + 1) = atF T (txL SS) k m j ++ [⟨k, m, t.ops[j]⟩]) := by
                show _ = _
                have := atF_snoc T (txL SS) k m j (by rw [HIx.out]; exact hjl)
                rw [this]
                simp only [HIx.out]
              have hFl : (atF T (txL SS) k m j).length < 4096 := by
                have e1 := HEV.out
                rw [← txL_length SS] at e1
                have e2 := atF_le T (txL SS) (k := k) (m := m) (i := j) (by rw [txL_length]; exact hlt) (by rw [HXk.out]; exact hml) (by rw [HIx.out]; exact hjl)
                omega
              obtain ⟨o, ho⟩ : ∃ o, o = t.ops[j] := ⟨_, rfl⟩
              rw [← ho] at q1 q2 q3 HSn
              obtain ⟨F, hF⟩ : ∃ F, F = atF T (txL SS) k m j := ⟨_, rfl⟩
              rw [← hF] at HSn hFl HWr
              clear p1 p2 p3 hxo ho hF
              by_cases hkd : o.kind = 1
              · have hkb : (o.kind != 1) = false := by simp [hkd]
                have HK := hide hkd
                clear hkd
                go_upto_region 12 with fail
                have hB0 : Below wr.heap.size wr (wr.alloc (.cells #[.int .u8 o.kind, .int .i64 o.key, .int .i64 o.val] 92)) := (Below.refl _ _).alloc (Nat.le_refl _) _
                obtain ⟨recs, hWb, hAb, hLn⟩ := HWr.out
                obtain ⟨R, l1, l2, ra, rc, hv, hRv, hIn, hlk, hLR⟩ := (hWb.grow hB0).find hLn (opbox wr o)
                obtain ⟨rv, el⟩ := R
                simp only at hv hRv hlk
                subst hRv
                obtain ⟨bx, hbx⟩ : ∃ bx, bx = wr.heap.size := ⟨_, rfl⟩
                obtain ⟨wA, hwA⟩ : ∃ wA, wA = wr.alloc (.cells #[.int .u8 o.kind, .int .i64 o.key, .int .i64 o.val] 92) := ⟨_, rfl⟩
                rw [← hwA] at hIn
                rw [← hwA]
                rw [← hbx] at hIn
                rw [← hbx]
                have k1 : wA.cell? ⟨bx, 1, none⟩ = some (.int .i64 o.key) := hIn.box.cell (show 1 < 3 by omega)
                have HIn := hide hIn
                have HMAP := hide hIn.mid.map
                have HAb := hide hAb
                have HLk := hide hlk
                have HLR := hide hLR
                have hszA : w.heap.size ≤ wA.heap.size := hIn.mid.bel.size
                have hRl : el.length ≤ F.length := hLR.1
                clear hB0 hWb hAb hLn hIn hlk hLR hbx hwA q1 q2 q3 HWr hwr
                go_upto_region 13 with (at_lookup; refine wpList_lookup_one rfl _ _ 25 2 33 rfl (int_enc Try.underlying2) Try.underlying25 HMAP.out (.slice none 0 0) (by kernel_rfl) o.key rfl rfl _ hv ?_)
                obtain ⟨n, hn⟩ : ∃ n, n = el.length := ⟨_, rfl⟩
                rw [← hn]
                rw [← hn] at hRl HIn HLR
                clear k1 HMAP hv
                go_cut [71] from 48 to 117 (fun v wc => wc = wA ∧ v = .bool (needNew el (k : Int)))
                case first =>
                  rcases snoc_cases el with he | ⟨els, e, he⟩
                  · subst he
                    obtain rfl : n = 0 := hn
                    go_wp2
                    go_meet
                    case rel => exact ⟨rfl, rfl⟩
                  · obtain ⟨gv, capv, hR⟩ := HIn.out.form (R := ⟨.slice ra n rc, el⟩) he
                    subst he
                    obtain rfl : n = els.length + 1 := by rw [hn]; simp
                    obtain ⟨rfl, rfl⟩ : ra = some ⟨gv, 0, none⟩ ∧ rc = capv := by cases hR; exact ⟨rfl, rfl⟩
                    obtain ⟨a1, a2, a3, a4, a5, a6⟩ := HIn.out.last
                    have HN := hide (needNew_snoc els e (k : Int))
                    clear hR hn a3 a4 a5 a6 HLR HIn HLk
                    generalize e.ses = es at a2 HN
                    generalize els.length = ne at *
                    have n1 : ((ne : Int) + 1 == 0) = false := by rw [beq_eq_false_iff_ne]; omega
                    go_wp2
                    go_meet
                    case rel => exact ⟨rfl, by rw [HN.out]⟩
                case rest =>
                  obtain ⟨hwc, rfl⟩ := hcut
                  obtain rfl : wA = wc := hwc.symm
                  go_upto_if 71 with fail
                  go_cut [10] from 48 to 117 (fun v wc => WNew w.heap.size w w.heap.size (vals recs) (absW recs) F.length o bx el l1 l2 k m v wc)
                  case first =>
                    have HSw := hide (fun h => swAdd_new (l := el) (s := k) m h)
                    cases hnn : needNew el (k : Int) with
                    | false =>
                      rcases snoc_cases el with he | ⟨els, e, he⟩
                      · subst he; cases hnn
                      · obtain ⟨gv, capv, hR⟩ := HIn.out.form (R := ⟨.slice ra n rc, el⟩) he
                        subst he
                        obtain rfl : n = els.length + 1 := by rw [hn]; simp
                        obtain ⟨rfl, rfl⟩ : ra = some ⟨gv, 0, none⟩ ∧ rc = capv := by cases hR; exact ⟨rfl, rfl⟩
                        obtain ⟨es, pv, pl⟩ := e
                        have hes : es = (k : Int) := by rw [needNew_snoc] at hnn; simpa using hnn
                        subst hes
                        have hL1 := HLR.out.2
                        have HL1 := hide hL1
                        clear hR hn hnn hL1
                        go_wp2
                        go_meet
                        case rel => exact ⟨gv, rc, els, pv, pl, rfl, HIn.out, swAdd_old els k m pv pl, by omega, fun e he => HL1.out e (List.mem_append_left _ he), HL1.out ⟨k, pv, pl⟩ (by simp)⟩
                    | true =>
                      have HNN := hide (HSw.out hnn)
                      obtain ⟨i0, hi, hz0, hz1, hz2⟩ := info_parts info102
                      have HOwn : Hid (wA.ownsRow w.heap.size 102 2 (.slice ra n rc) n (elCells el)) := by
                        have := HIn.out.mid.own.1
                        unfold OOwn at this
                        simp only at this
                        rw [← hn] at this
                        exact this
                      have HHn := hide hn
                      clear hnn hn
                      go_wp2_with (at_builtin; refine wpList_append_lies _ rfl _ _ 33 rfl w.heap.size 102 i0 (.agg #[.int .i64 0, .slice none 0 0]) 2 32 Try.underlying33 hi hz0 hz1 hz2 rfl (by decide) (.slice ra n rc) n (elCells el) rfl (by exact World.ownsRow.alloc HOwn.out _) ⟨wA.heap.size, 0, none⟩ 1 1 [.int .i64 (k : Int), .slice none 0 0] rfl rfl (by exact World.news_of_block (MapKept.heap_alloc wA _).1) (by simp [Value.oneCell']) (by omega) (by unfold maxLen; omega) (by omega) (by simp; omega) (wA.heap.size + 1) (by simp) ?_; intro g3 cap3 w1 hown1 hgrow1 hat1 hlt1; have HY := hide (And.intro hown1 (And.intro hgrow1 hat1)); clear hown1 hgrow1 hat1 hlt1)
                      go_meet
                      case rel =>
                        obtain ⟨y1, y2, y3⟩ := HY.out
                        obtain rfl := HHn.out
                        have := HIn.out.push (s := k) (W := wA.alloc _) ((Below.refl _ _).alloc (Nat.le_refl _) _) y1 y2 (by simpa using y3)
                        exact ⟨g3, cap3, el, .slice none 0 0, [], rfl, this, HNN.out, hRl, HLR.out.2, Nat.zero_le _⟩
                  case rest =>
                    rename World => wB
                    obtain ⟨gv, capv, els, pv, pl, rfl, hIn2, hSw, hel, hels, hpl⟩ := hcut
                    obtain ⟨a1, a2, a3, a4, a5, a6⟩ := hIn2.last
                    have HIn2 := hide hIn2
                    have HSw := hide hSw
                    have HEls := hide hels
                    have HPO := hide a5
                    have hszB : w.heap.size ≤ wB.heap.size := hIn2.mid.bel.size
                    obtain ⟨pa, pc, rfl⟩ : ∃ pa pc, pv = .slice pa pl.length pc := by
                      rcases a5.form with ⟨rfl, rfl⟩ | ⟨g, cap, rfl, _⟩
                      · exact ⟨none, 0, rfl⟩
                      · exact ⟨_, cap, rfl⟩
                    obtain ⟨ne, hne⟩ : ∃ ne, ne = els.length := ⟨_, rfl⟩
                    rw [← hne] at a2 a3 a4 a6 hel
                    rw [← hne]
                    obtain ⟨np, hnp⟩ : ∃ np, np = pl.length := ⟨_, rfl⟩
                    rw [← hnp] at a3 hpl
                    have HNE := hide hne
                    have HNP := hide hnp
                    have hwm : IntKind.i32.wrap (m : Int) = (m : Int) := by rw [IntKind.wrap_i32]; omega
                    clear hne hnp hIn2 hSw hels a5 HIn HLR hn hRl hszA
                    go_upto_region 17 with fail
                    go_cut [101] from 48 to 117 (fun v wc => wc = wB ∧ v = .bool (decide (pl.getLast? ≠ some (m : Int))))
                    case first =>
                      rcases snoc_cases pl with he | ⟨ps, q, he⟩
                      · subst he
                        obtain rfl : np = 0 := HNP.out
                        go_wp2
                        go_meet
                        case rel => exact ⟨rfl, rfl⟩
                      · subst he
                        obtain rfl : np = ps.length + 1 := by rw [HNP.out]; simp
                        rcases HPO.out.form with ⟨_, h0⟩ | ⟨g, cap, hg1, hg2, hg3⟩
                        · simp at h0
                        · obtain ⟨rfl, rfl⟩ : pa = some ⟨g, 0, none⟩ ∧ pc = cap := by cases hg1; exact ⟨rfl, rfl⟩
                          have k1 := hg3 ps.length (by simp)
                          have eq1 : (ps ++ [q])[ps.length]'(by simp) = q := by simp
                          rw [eq1] at k1
                          have HD : Hid (decide ((ps ++ [q]).getLast? ≠ some (m : Int)) = (q != (m : Int))) := by
                            show _ = _
                            by_cases h : q = (m : Int) <;> simp [h]
                          clear hg1 hg2 hg3 eq1 HIn2 HPO HSw HNP HEls
                          generalize ps.length = n2 at *
                          have n1 : ((n2 : Int) + 1 == 0) = false := by rw [beq_eq_false_iff_ne]; omega
                          go_wp2
                          go_meet
                          case rel => exact ⟨rfl, by rw [HD.out]⟩
                    case rest =>
                      obtain ⟨hwc, rfl⟩ := hcut
                      obtain rfl : wB = wc := hwc.symm
                      go_upto_if 101 with fail
                      go_cut [] from 48 to 117 (fun wc => WDone w.heap.size w w.heap.size (vals recs) (absW recs) F.length o bx el l1 l2 k m (.slice (some ⟨gv, 0, none⟩) (ne + 1) capv) wc)
                      case first =>
                        by_cases hq : pl.getLast? = some (m : Int)
                        · have hd : decide (pl.getLast? ≠ some (m : Int)) = false := by simp [hq]
                          have HQ : Hid (pl = snocP pl m) := by
                            show _ = _
                            unfold snocP; rw [if_pos hq]
                          clear hq
                          rw [hd]
                          go_wp2
                          go_meet
                          case rel =>
                            obtain rfl := HNE.out
                            exact wdone_of HIn2.out HSw.out HQ.out hel HEls.out (by rw [← HNP.out]; exact hpl)
                        · have hd : decide (pl.getLast? ≠ some (m : Int)) = true := by simp [hq]
                          have HQ : Hid (pl ++ [(m : Int)] = snocP pl m) := by
                            show _ = _
                            unfold snocP; rw [if_neg hq]
                          clear hq
                          rw [hd]
                          obtain ⟨i0, hi, hz0, hz1, hz2⟩ := info_parts info21
                          have HOwn : Hid (wB.ownsRow w.heap.size 21 1 (.slice pa np pc) np (pl.map (Value.int .i32))) := by
                            have := HPO.out
                            unfold POwn at this
                            rw [← HNP.out] at this
                            exact this
                          have HAf : Hid (∀ w1, (wB.alloc (.cells #[.int .i32 (m : Int)] 21)).grownBy w1 (Value.slice pa np pc).ownBlock → w1.cell? ⟨gv, ne * 2 + 1, none⟩ = some (.slice pa np pc) ∧ w1.frozen? ⟨gv, ne * 2 + 1, none⟩ = false) := by
                            show ∀ w1, _
                            intro w1 h
                            have := HIn2.out.after (W := wB.alloc (.cells #[.int .i32 (m : Int)] 21)) ((Below.refl _ _).alloc (Nat.le_refl _) _) (w1 := w1) (by rw [← HNP.out]; exact h)
                            rw [← HNE.out, ← HNP.out] at this
                            exact this
                          have a3' := cal a3 (.cells #[.int .i32 (m : Int)] 21)
                          go_wp2_with (at_builtin; refine wpList_append_lies _ rfl _ _ 99 rfl w.heap.size 21 i0 (.int .i32 0) 1 4 Try.underlying99 hi hz0 hz1 hz2 rfl (by decide) (.slice pa np pc) np (pl.map (Value.int .i32)) rfl (by exact World.ownsRow.alloc HOwn.out _) ⟨wB.heap.size, 0, none⟩ 1 1 [.int .i32 (m : Int)] rfl rfl (by exact cell_one_new _ _ _) (ints_oneCell .i32 [(m : Int)]) (by omega) (by unfold maxLen; omega) (by omega) (by simp; omega) (wB.heap.size + 1) (by simp) ?_; intro g3 cap3 w1 hown1 hgrow1 hat1 hlt1; obtain ⟨z1, z2⟩ := HAf.out w1 hgrow1; have HY := hide (And.intro hown1 (And.intro hgrow1 hat1)); clear hown1 hgrow1 hat1 hlt1)
                          go_meet
                          case rel =>
                            obtain ⟨y1, y2, y3⟩ := HY.out
                            obtain rfl := HNE.out
                            obtain rfl := HNP.out
                            have := HIn2.out.place (p := m) (W := wB.alloc _) ((Below.refl _ _).alloc (Nat.le_refl _) _) y1 y2 (by simpa using y3)
                            exact wdone_of this HSw.out HQ.out hel HEls.out hpl
                      case rest =>
                        rename World => wC
                        obtain ⟨R', hR', hIn3, hSw3, hLen3⟩ := hcut
                        have k1 : wC.cell? ⟨bx, 1, none⟩ = some (.int .i64 o.key) := hIn3.box.cell (show 1 < 3 by omega)
                        have HIn3 := hide hIn3
                        have HMAP := hide hIn3.mid.map
                        have HD : Hid (∀ w', MapAt ikey w' w.heap.size (up (vals recs) o.key (.slice (some ⟨gv, 0, none⟩) (ne + 1) capv)) → Turned wC w' w.heap.size → WbIn w.heap.size w w.heap.size (F ++ [⟨k, m, o⟩]) w') := by
                          show ∀ w', _
                          intro w' h1 h2
                          rw [← hR'] at h1
                          exact hIn3.done (R0 := ⟨.slice none 0 0, el⟩) HAb.out HLk.out HK.out hSw3 hLen3 h1 h2
                        clear hR' hIn3 hSw3 hLen3 HIn2 HPO HSw HEls a1 a2 a3 a4 a6
                        go_wp2_with (at_mapUpdate; refine wpList_update_at rfl _ _ _ 25 2 33 rfl (int_enc Try.underlying2) Try.underlying25 HMAP.out o.key _ rfl rfl rfl ?_; intro w2 hm2 ht2; have HW2 := hide (HD.out w2 hm2 ht2); clear hm2 ht2)
                        go_roundw
                        case rel => exact ⟨j + 1, by omega, by go_num, by rw [HSn.out]; exact HW2.out⟩
                        case measure => simp [intOf]; omega
              · have hkb : (o.kind != 1) = true := by simp [hkd]
                have HK := hide hkd
                clear hkd
                go_wp2
                go_roundw
                case rel => exact ⟨j + 1, by omega, by go_num, by rw [HSn.out]; exact HWr.out.skip HK.out ((Below.refl _ _).alloc (Nat.le_refl _) _)⟩
                case measure => simp [intOf]; omega
            · go_wp2
              go_roundw
              case rel => exact ⟨m + 1, by omega, by go_num, by rw [← atF_full T (txL SS) k m j (by rw [HIx.out]; omega)]; exact HWr.out⟩
              case measure => simp [intOf]; omega
        · go_wp2
          go_roundw
          case rel =>
            obtain rfl : m = x.txns.length := by omega
            exact ⟨k + 1, by omega, by go_num, by rw [← atF_done, HXk.out]; exact HWp.out⟩
          case measure => simp [intOf]; omega
    · go_wp2
      go_ret
      obtain rfl : k = SS.length := by omega
      obtain ⟨recs, h1, h2, h3⟩ := HW.out
      exact ⟨_, recs, rfl, h1, h2, h3.mono HEV.out⟩
end Go.Proofs.Qxb6602646a
