/-
  FnWritesByKeyIgnoresReadsValuesAndIds, walked.
-/
import Derived.Test.Qxb6602646aStrip
import Derived.Test.Qxb6602646aKeys2
import Derived.Test.Qxb6602646aSame
import Derived.Test.Qxb6602646aFits
import Derived.Test.Qxb6602646aTop
namespace Go.Proofs.Qxb6602646a
open Go.RowKit

theorem vals_length (recs : List (Int × WRec)) : (vals recs).length = (absW recs).length := by simp [vals, absW]
/-- A key's list, read in the map. -/
theorem WbAt.get {B : Nat} {w0 w : World} {mb : Nat} {recs : List (Int × WRec)} {N : Nat} {k : Int} {E : List (Int × List Int)} (h : WbAt B w0 w mb recs) (hl : LenW N recs) (hk : lkG (absW recs) k = some E) :
    ∃ a c, (lk (vals recs) k).getD (.slice none 0 0) = .slice a E.length c ∧ (lk (vals recs) k).isSome = true ∧ SwRead w a E ∧ E.length ≤ N ∧ ∀ i (h : i < E.length), E[i].2.length ≤ N := by
  cases hq : lk (vals recs) k with
  | none =>
    rw [absW_lk_none (vals_none hq)] at hk
    cases hk
  | some v =>
    obtain ⟨l1, R, l2, rfl, h2, h3⟩ := vals_split hq
    rw [absW_lk h3] at hk
    cases hk
    obtain ⟨a, c, h4, h5⟩ := (h.each (k, R) (by simp)).read
    obtain ⟨h6, h7⟩ := hl (k, R) (by simp)
    refine ⟨a, c, by rw [h2]; exact h4, rfl, h5, by rw [absE_length]; exact h6, fun i hi => ?_⟩
    rw [absE_at]
    exact h7 _ (List.getElem_mem _)
/-- A map that is in memory from now on. -/
def WbOut (W : List (Int × List (Int × List Int))) (mb : Nat) (w : World) : Prop := ∃ B wx recs, WbAt B wx w mb recs ∧ absW recs = W ∧ LenW 4096 recs
theorem WbOut.grow {W : List (Int × List (Int × List Int))} {mb : Nat} {w w' : World} (h : WbOut W mb w) (k : Below w.heap.size w w') : WbOut W mb w' := by
  obtain ⟨B, wx, recs, h1, h2⟩ := h
  exact ⟨B, wx, recs, h1.grow k, h2⟩
theorem WbOut.look {W : List (Int × List (Int × List Int))} {mb : Nat} {w : World} (h : WbOut W mb w) : ∃ L, MapAt ikey w mb L ∧ L.length = W.length ∧ ∀ k E, lkG W k = some E →
    ∃ a c, (lk L k).getD (.slice none 0 0) = .slice a (List.length E) c ∧ (lk L k).isSome = true ∧ SwRead w a E ∧ E.length ≤ 4096 ∧ ∀ i (h : i < E.length), E[i].2.length ≤ 4096 := by
  obtain ⟨B, wx, recs, h1, rfl, h3⟩ := h
  exact ⟨vals recs, h1.map, vals_length recs, fun k E hk => h1.get h3 hk⟩

theorem FitsH.strip {T : List PTxn} {SS : List PSes} (h : FitsH T SS) : FitsH (stripT T) (bareS SS) where
  bytes := by
    have h1 := h.bytes
    have h2 := opsSum_strip T
    rw [stripT_length]
    omega
  sl := by rw [bareS_length]; exact h.sl
  each k hk := by rw [bareS_at]; exact h.each k _
  ok k hk := by rw [bareS_at, stripT_length]; exact h.ok k _
  ev := by
    rw [bareS_length, txL_bare]
    exact Nat.le_trans (seF_strip_length T (txL SS) SS.length) h.ev
theorem wbHist {T : List PTxn} {SS : List PSes} {w w' : World} {e : Ending} (hF : FitsH T SS) (h : histPost T SS w e w') : Calls Try.prog 11 #[.pointer (some ⟨w.heap.size, 0, none⟩)] w' (wb11Post T SS w') := by
  obtain ⟨_, _, ta, tc, sa, sc, h1, h2, h3⟩ := h
  exact wb11 w.heap.size tc sc ta sa T SS w' (h1.cell (show 0 < 3 by omega)) (h1.cell (show 1 < 3 by omega)) (h2.mono fun b hb => hb.2) (h3.mono fun b hb => hb.2) (by have := hF.bytes; omega) hF.sl hF.each hF.ok hF.ev
theorem wb11_out {T : List PTxn} {SS : List PSes} {w w' : World} {e : Ending} (h : wb11Post T SS w e w') : ∃ mb, e = .returned (.map (some mb)) ∧ WbOut (wbOf (seF T (txL SS) SS.length)) mb w' ∧ Below w.heap.size w w' := by
  obtain ⟨B, wx, mb, recs, h1, h2, h3, h4, h5⟩ := h
  exact ⟨mb, h1, ⟨B, wx, recs, h2, h3, h4⟩, h5⟩
theorem hist12 {T : List PTxn} {SS : List PSes} (hF : FitsH T SS) (a sa : Option Addr) (c sc : Nat) (S : Nat → Prop) (w : World) (hT : TxnsAt S w a T) (hSS : SessAt S w sa SS) (hS : ∀ b, S b → b < w.heap.size) (hnil : a = none → T.length = 0) :
    Calls Try.prog 12 #[.slice a T.length c, .slice sa SS.length sc] w (histPost T SS w) := toHistory_any a sa c sc S T SS w hT hSS hS hF.bytes hnil hF.sl hF.each

set_option maxHeartbeats 1000000 in
set_option maxRecDepth 20000 in
theorem main4 (a sa : Option Addr) (c sc : Nat) (S : Nat → Prop) (T : List PTxn) (SS : List PSes) (w : World) (hT : TxnsAt S w a T) (hSS : SessAt S w sa SS) (hS : ∀ b, S b → b < w.heap.size) (hn : T.length ≤ maxLen) (hn2 : SS.length ≤ maxLen) (hnil : a = none → T.length = 0) :
    Calls Try.prog 4 #[.slice a T.length c, .slice sa SS.length sc] w (okPost w) := by
  have HT := hide hT
  have HSS := hide hSS
  have HS := hide hS
  have HI := hide hnil
  have HN := hide hn
  have HN2 := hide hn2
  clear hT hSS hS hn hnil hn2
  go_enter Try.func4, Try.ntmps4
  go_wp2_with fail
  refine (bytes16 a sa c sc S T SS w HT.out HSS.out HN.out HN2.out).mono ?_
  rintro e w' ⟨⟨r, rfl⟩, rfl⟩
  rename World => w
  cases r
  · go_wp2_with fail
    go_ret
    exact ⟨rfl, Below.refl _ _⟩
  go_wp2_with fail
  refine (fits10 a sa c sc S T SS _ HT.out HSS.out HN.out HN2.out).mono ?_
  rintro e w' ⟨⟨r, rfl, hr⟩, rfl⟩
  rename World => w
  cases r
  · clear hr
    go_wp2_with fail
    go_ret
    exact ⟨rfl, Below.refl _ _⟩
  have hF := hr rfl
  have HF := hide hF
  have hTl : T.length ≤ 1048576 := by have := hF.bytes; omega
  have hol : opsSum T ≤ 1048576 := by have := hF.bytes; omega
  have HOL := hide hol
  have hSl := hF.sl
  clear hr hF hol HN HN2
  have hmk := fun w => run_make_rows (P := Try.prog) 22 38 #[.int .i64 0, .int .i64 0, .slice none 0 0] 3 40 Try.underlying22 (.agg #[.int .i64 0, .int .i64 0, .slice none 0 0]) rfl info38 .i64 .i64 T.length (by omega) (by omega) w
  go_upto_block 0 with fail
  go_cut [5] from 6 (fun v wc => StDone T w v wc)
  case first =>
    go_wp2_with fail
    go_loopw [34] (fun i wr => ∃ k : Nat, k ≤ T.length ∧ i = .int .i64 k ∧ StOut T w k wr) (fun i _ => T.length - (intOf i).toNat)
    case atStart => exact ⟨0, Nat.zero_le _, rfl, stOut_start T w⟩
    case round =>
      rename World => wr
      obtain ⟨k, hk, rfl, hO⟩ := hrel
      have HO := hide hO
      have hwr := hO.1.size
      clear hO
      by_cases hlt : k < T.length
      · obtain ⟨b, off, rfl, hbS, hx⟩ := HT.out (by omega)
        have hbw := HS.out b hbS
        obtain ⟨_, _, a', c', g3, g4⟩ := hx k hlt
        have f3 := (HO.out.1.cell (p := ⟨b, off + k * 3 + 2, none⟩) hbw).trans g3
        have HG := hide g4
        have hol : T[k].ops.length ≤ 1048576 := Nat.le_trans (opsSum_at T k hlt) HOL.out
        have HST := hide (fun wi (hb : Below wr.heap.size wr wi) (oa : Option Addr) (oc : Nat) ho => stOut_step HO.out hlt hb oa oc ho)
        obtain ⟨t, ht⟩ : ∃ t, t = T[k] := ⟨_, rfl⟩
        rw [← ht] at f3 HG hol HST
        clear g3 g4 hx ht
        go_wp2_with fail
        go_loopw [7, 43] (fun v i wi => ∃ j : Nat, j ≤ t.ops.length ∧ i = .int .i64 j ∧ GRel 40 3 ocf wr (stripOps (t.ops.take j)) v wi) (fun _ i _ => t.ops.length - (intOf i).toNat)
        case atStart => exact ⟨0, Nat.zero_le _, rfl, GRel.nil _ _ _ _⟩
        case round =>
          rename World => wi
          obtain ⟨j, hj, rfl, hG⟩ := hrel
          have HGr := hide hG
          have hwi := hG.2.size
          obtain ⟨va, vc, hv, hops⟩ := hG.ops
          subst hv
          have HOps := hide hops
          clear hG f3 hops
          by_cases hjl : j < t.ops.length
          · obtain ⟨bo, offo, rfl, hbo, hxo⟩ := HG.out (by omega)
            obtain ⟨p1, p2, p3⟩ := hxo j hjl
            have hbow := HS.out bo hbo
            have hbor : bo < wr.heap.size := by omega
            have q1 := (HGr.out.2.cell (p := ⟨bo, offo + j * 3, none⟩) hbor).trans ((HO.out.1.cell (p := ⟨bo, offo + j * 3, none⟩) hbow).trans p1)
            have q2 := (HGr.out.2.cell (p := ⟨bo, offo + j * 3 + 1, none⟩) hbor).trans ((HO.out.1.cell (p := ⟨bo, offo + j * 3 + 1, none⟩) hbow).trans p2)
            have q3 := (HGr.out.2.cell (p := ⟨bo, offo + j * 3 + 2, none⟩) hbor).trans ((HO.out.1.cell (p := ⟨bo, offo + j * 3 + 2, none⟩) hbow).trans p3)
            have HWs := hide (stripOps_snoc t.ops j hjl)
            have hll : (stripOps (t.ops.take j)).length ≤ 1048576 := by
              have e1 := stripOps_length (t.ops.take j)
              have e2 : (t.ops.take j).length ≤ t.ops.length := List.length_take_le' _ _
              omega
            obtain ⟨o, ho⟩ : ∃ o, o = t.ops[j] := ⟨_, rfl⟩
            rw [← ho] at q1 q2 q3 HWs
            obtain ⟨ks, hks⟩ : ∃ ks, ks = stripOps (t.ops.take j) := ⟨_, rfl⟩
            rw [← hks] at hll HGr HWs
            rw [← hks]
            obtain ⟨n, hn⟩ : ∃ n, n = ks.length := ⟨_, rfl⟩
            rw [← hn] at hll
            rw [← hn]
            have HHn := hide hn
            clear p1 p2 p3 hxo ho hn hks
            have C17 := hide (fun w => isWrite_any o.kind o.key o.val w)
            by_cases hkd : o.kind = 1
            · have hkb : (o.kind == 1) = true := by simp [hkd]
              have HE : Hid (stripOps (t.ops.take (j + 1)) = ks ++ [stripOp o]) := by
                show _ = _
                rw [HWs.out, if_pos hkd]
              clear hkd
              go_upto_region 14 with (go_at_call 17; refine (C17.out _).mono ?_; rintro e w' ⟨rfl, rfl⟩)
              have k0 : ((wi.alloc (.cells #[.int .u8 o.kind, .int .i64 o.key, .int .i64 o.val] 40)).alloc (.cells #[.int .u8 o.kind, .int .i64 o.key, .int .i64 o.val] 40)).cell? ⟨wi.heap.size, 0, none⟩ = some (.int .u8 o.kind) := cal (cell_box _ _ _ _ _ rfl) _
              have k1 : ((wi.alloc (.cells #[.int .u8 o.kind, .int .i64 o.key, .int .i64 o.val] 40)).alloc (.cells #[.int .u8 o.kind, .int .i64 o.key, .int .i64 o.val] 40)).cell? ⟨wi.heap.size, 1, none⟩ = some (.int .i64 o.key) := cal (cell_box _ _ _ _ _ rfl) _
              have hBX : Below wi.heap.size wi ((wi.alloc (.cells #[.int .u8 o.kind, .int .i64 o.key, .int .i64 o.val] 40)).alloc (.cells #[.int .u8 o.kind, .int .i64 o.key, .int .i64 o.val] 40)) := ((Below.refl _ _).alloc (Nat.le_refl _) _).alloc (by simp) _
              have HGX := hide (HGr.out.grow hBX)
              obtain ⟨wX, hwX⟩ : ∃ wX, wX = (wi.alloc (.cells #[.int .u8 o.kind, .int .i64 o.key, .int .i64 o.val] 40)).alloc (.cells #[.int .u8 o.kind, .int .i64 o.key, .int .i64 o.val] 40) := ⟨_, rfl⟩
              rw [← hwX] at k0 k1 HGX
              rw [← hwX]
              have hszX : wr.heap.size ≤ wX.heap.size := HGX.out.2.size
              obtain ⟨i0, hi, hz0, hz1, hz2⟩ := info_parts info40
              have HOwn : Hid (wX.ownsRow wr.heap.size 40 3 (.slice va n vc) n (ks.flatMap ocf)) := by
                have := HGX.out.1
                rw [← HHn.out] at this
                exact this
              clear q1 q2 q3 hBX hwX HGr hwi
              go_wp2_with (at_builtin; refine wpList_append_lies _ rfl _ _ 36 rfl wr.heap.size 40 i0 (.agg #[.int .u8 0, .int .i64 0, .int .i64 0]) 3 24 Try.underlying36 hi hz0 hz1 hz2 rfl (by decide) (.slice va n vc) n (ks.flatMap ocf) rfl (by exact World.ownsRow.alloc HOwn.out _) ⟨wX.heap.size, 0, none⟩ 1 1 [.int .u8 o.kind, .int .i64 o.key, .int .i64 0] rfl rfl (by exact World.news_of_block (MapKept.heap_alloc wX _).1) (by simp [Value.oneCell']) (by omega) (by unfold maxLen; omega) (by omega) (by simp; omega) (wX.heap.size + 1) (by simp) ?_; intro g3 cap3 w1 hown1 hgrow1 hat1 hlt1; have HY := hide (And.intro hown1 hgrow1); clear hown1 hgrow1 hat1 hlt1)
              go_roundw
              case rel =>
                obtain ⟨y1, y2⟩ := HY.out
                obtain rfl := HHn.out
                exact ⟨j + 1, by omega, by go_num, by rw [HE.out]; exact HGX.out.push (W := wX.alloc _) ((Below.refl _ _).alloc (Nat.le_refl _) _) rfl y1 y2⟩
              case measure => simp [intOf]; omega
            · have hkb : (o.kind == 1) = false := by simp [hkd]
              have HE : Hid (stripOps (t.ops.take (j + 1)) = ks) := by
                show _ = _
                rw [HWs.out, if_neg hkd, List.append_nil]
              clear hkd
              go_wp2_with (go_at_call 17; refine (C17.out _).mono ?_; rintro e w' ⟨rfl, rfl⟩)
              go_roundw
              case rel =>
                obtain rfl := HHn.out
                exact ⟨j + 1, by omega, by go_num, by rw [HE.out]; exact HGr.out.grow (((Below.refl _ _).alloc (Nat.le_refl _) _).alloc (by simp) _)⟩
              case measure => simp [intOf]; omega
          · obtain rfl : j = t.ops.length := by omega
            obtain ⟨_, ⟨f, hf⟩, _⟩ := HO.out
            have hfl := hf.lt
            have hfi := hf.of_block (HGr.out.2.block _ hfl)
            have r1 := hfi.cell (show k * 3 < T.length * 3 by omega)
            have r2 := hfi.cell (show k * 3 + 1 < T.length * 3 by omega)
            have r3 := hfi.cell (show k * 3 + 2 < T.length * 3 by omega)
            have z1 := hfi.frozen (k * 3)
            have z2 := hfi.frozen (k * 3 + 1)
            have z3 := hfi.frozen (k * 3 + 2)
            generalize f (k * 3) = u1 at r1
            generalize f (k * 3 + 1) = u2 at r2
            generalize f (k * 3 + 2) = u3 at r3
            rw [List.take_length] at HOps HGr ⊢
            have HNx := hide (HST.out wi HGr.out.2 va vc HOps.out)
            clear hf hfi HST HOps
            have hki : (k : Int) < (T.length : Int) := by omega
            have hk0 : (0 : Int) ≤ (k : Int) := by omega
            go_wp2_with fail
            go_roundw
            case rel => exact ⟨k + 1, by omega, by go_num, HNx.out⟩
            case measure => simp [intOf]; omega
      · go_wp2_with fail
        go_meet
        case rel => exact stOut_done HO.out (by omega)
  case rest =>
    rename World => w1
    obtain ⟨ad, tcap, rfl, hB1, hT1⟩ := hcut
    have HB1 := hide hB1
    have HT1 := hide hT1
    have hsz1 := hB1.size
    clear hB1 hT1 hmk
    have hmk2 := fun w => run_make_rows (P := Try.prog) 23 44 #[.int .i64 0, .slice none 0 0] 2 32 Try.underlying23 (.agg #[.int .i64 0, .slice none 0 0]) rfl info44 .i64 .i64 SS.length (by omega) (by omega) w
    go_upto_block 4 with fail
    go_cut [10] from 11 (fun v wc => BaDone SS w1 v wc)
    case first =>
      go_wp2_with fail
      go_loopw [69] (fun i wr => ∃ k : Nat, k ≤ SS.length ∧ i = .int .i64 k ∧ BaOut SS w1 k wr) (fun i _ => SS.length - (intOf i).toNat)
      case atStart => exact ⟨0, Nat.zero_le _, rfl, baOut_start SS w1⟩
      case round =>
        rename World => wr
        obtain ⟨k, hk, rfl, hO⟩ := hrel
        have HO := hide hO
        have hwr := hO.1.size
        obtain ⟨_, ⟨f, hf⟩, _⟩ := hO
        by_cases hlt : k < SS.length
        · obtain ⟨b, off, rfl, hbS, hx⟩ := HSS.out (by omega)
          have hbw := HS.out b hbS
          have hb1 : b < w1.heap.size := by omega
          obtain ⟨_, a', c', g3, g4⟩ := hx k hlt
          have f3 := (HO.out.1.cell (p := ⟨b, off + k * 2 + 1, none⟩) hb1).trans ((HB1.out.cell (p := ⟨b, off + k * 2 + 1, none⟩) hbw).trans g3)
          have HNx := hide (baOut_step HO.out hlt a' c' ((g4.kept (fun x hx => HB1.out.block x (HS.out x hx))).mono fun x hx => Nat.lt_of_lt_of_le (HS.out x hx) hsz1))
          have r1 := hf.cell (show k * 2 < SS.length * 2 by omega)
          have r2 := hf.cell (show k * 2 + 1 < SS.length * 2 by omega)
          have z1 := hf.frozen (k * 2)
          have z2 := hf.frozen (k * 2 + 1)
          generalize f (k * 2) = u1 at r1
          generalize f (k * 2 + 1) = u2 at r2
          have hxl := HF.out.each k hlt
          generalize SS[k].txns.length = nx at f3 HNx hxl
          have hki : (k : Int) < (SS.length : Int) := by omega
          have hk0 : (0 : Int) ≤ (k : Int) := by omega
          clear g3 g4 hx hf
          go_wp2_with fail
          go_roundw
          case rel => exact ⟨k + 1, by omega, by go_num, HNx.out⟩
          case measure => simp [intOf]; omega
        · go_wp2_with fail
          go_meet
          case rel => exact baOut_done HO.out (by omega)
    case rest =>
      rename World => w2
      obtain ⟨ad2, scap, rfl, hB2, hS2⟩ := hcut
      have HB12 := hide hB2
      have HS2 := hide hS2
      have HB2 := hide (HB1.out.trans (hB2.mono hsz1))
      have hsz2 := HB2.out.size
      have hsz12 := hB2.size
      have HT2 := hide ((HT1.out.kept (fun x hx => hB2.block x hx.2)).mono (S' := (· < w2.heap.size)) fun x hx => Nat.lt_of_lt_of_le hx.2 hsz12)
      have HTa := hide ((HT.out.kept (fun x hx => HB2.out.block x (HS.out x hx))).mono (S' := (· < w2.heap.size)) fun x hx => Nat.lt_of_lt_of_le (HS.out x hx) hsz2)
      have HSa := hide ((HSS.out.kept (fun x hx => HB2.out.block x (HS.out x hx))).mono (S' := (· < w2.heap.size)) fun x hx => Nat.lt_of_lt_of_le (HS.out x hx) hsz2)
      clear hB2 hS2 hmk2 HT1 HB1 HB12 hsz12 hsz1
      go_wp2_with fail
      refine (hist12 HF.out a sa c sc (· < w2.heap.size) w2 HTa.out HSa.out (fun _ h => h) HI.out).mono ?_
      rintro e w3 hH
      obtain rfl := hH.1
      have HH3 := hide hH
      have HB3 := hide hH.2.1
      have hsz3 := hH.2.1.size
      clear hH
      go_wp2_with fail
      refine (wbHist HF.out HH3.out).mono ?_
      rintro e w4 hW
      obtain ⟨mb1, rfl, hW1, hB4⟩ := wb11_out hW
      have HW1 := hide hW1
      have HB4 := hide (HB3.out.trans (hB4.mono hsz3))
      have hsz4 := HB4.out.size
      clear hW hW1 hB4 HB3 HH3 hsz3
      go_wp2_with fail
      refine (hist12 HF.out.strip (some ad) (some ad2) tcap scap (· < w2.heap.size) w4 (HT2.out.kept (SameOn.of_below HB4.out)) (HS2.out.kept (SameOn.of_below HB4.out)) (fun b h => Nat.lt_of_lt_of_le h hsz4) (fun h => by cases h)).mono ?_
      rintro e w5 hH
      obtain rfl := hH.1
      have HH5 := hide hH
      have HB5 := hide hH.2.1
      have hsz5 := hH.2.1.size
      clear hH
      go_wp2_with fail
      refine (wbHist HF.out.strip HH5.out).mono ?_
      rintro e w6 hW
      obtain ⟨mb2, rfl, hW2, hB6⟩ := wb11_out hW
      rw [bareS_length, txL_bare, wbOf_strip] at hW2
      have HW2 := hide hW2
      have HB46 := hide (HB5.out.trans (hB6.mono hsz5))
      have HB26 := hide (HB4.out.trans (HB46.out.mono hsz4))
      have hsz6 := HB26.out.size
      have HW1' := hide (HW1.out.grow HB46.out)
      clear hW hW2 hB6 HB5 HH5 hsz5 HW1 HB46 HT2 HS2
      go_wp2_with fail
      refine (men13 a sa c sc (· < w2.heap.size) T SS w6 (HTa.out.kept (SameOn.of_below HB26.out)) (HSa.out.kept (SameOn.of_below HB26.out)) (fun b h => Nat.lt_of_lt_of_le h hsz6) hTl hSl HF.out.each HF.out.ok HF.out.ev HOL.out).mono ?_
      rintro e w7 ⟨v7, rfl, hM⟩
      obtain ⟨ma, mc, hv7, hMen⟩ := hM.men
      subst hv7
      have HB67 := hide hM.2
      have HB27 := hide (HB26.out.trans (hM.2.mono hsz6))
      have hsz7 := HB27.out.size
      have HMen := hide hMen
      clear hM hMen
      go_wp2_with fail
      refine (keys14 a ma c mc (· < w7.heap.size) T (seM T (txL SS) SS.length) w7 ((HTa.out.kept (SameOn.of_below HB27.out)).mono fun b h => Nat.lt_of_lt_of_le h hsz7) HMen.out (fun _ h => h) hTl (Nat.le_trans (seM_length T (txL SS) SS.length) HF.out.ev) (fun x hx => ?_) HOL.out (by rw [ks_seM]; exact Nat.le_trans (wk_length _) HF.out.ev)).mono ?_
      · refine seM_ok T (txL SS) (fun l hl t ht => ?_) SS.length (by rw [txL_length]; exact Nat.le_refl _) x hx
        unfold txL at hl
        obtain ⟨s, hs, rfl⟩ := List.mem_map.1 hl
        obtain ⟨q, hq, rfl⟩ := List.getElem_of_mem hs
        exact HF.out.ok q hq t ht
      rintro e w8 ⟨ka, kc, l, rfl, hI8, hNd, hMem, hl4, hB8⟩
      rw [ks_seM] at hMem
      have HI8 := hide hI8
      have hcnt := wbOf_count (seF T (txL SS) SS.length) l hNd hMem
      have HKey := hide (fun k hk => lkG_of_mem _ _ ((wbOf_keys (seF T (txL SS) SS.length) k).2 ((hMem k).1 hk)))
      have HB68 := hide (HB67.out.trans (hB8.mono HB67.out.size))
      have HBf := hide (HB2.out.trans ((HB26.out.trans (HB68.out.mono hsz6)).mono hsz2))
      have HW1f := hide (HW1'.out.grow HB68.out)
      have HW2f := hide (HW2.out.grow HB68.out)
      clear hI8 hNd hMem hB8 HB67 HB27 HMen HW1' HW2 HTa HSa HB26 HB4 HB2 HB68 HOL
      generalize wbOf (seF T (txL SS) SS.length) = W at *
      obtain ⟨L1, hM1, hL1, _⟩ := HW1f.out.look
      obtain ⟨L2, hM2, hL2, _⟩ := HW2f.out.look
      have el1 : ((L1.length : Int) != (l.length : Int)) = false := by rw [hL1, hcnt]; simp
      have el2 : ((L2.length : Int) != (l.length : Int)) = false := by rw [hL2, hcnt]; simp
      have hl1 : (Builtin.len_ #[25] 3 #[.map (some mb1)]).run Try.prog w8 = .ok (.int .i64 L1.length) w8 := run_len_at 3 Try.underlying25 hM1
      have hl2 : (Builtin.len_ #[25] 3 #[.map (some mb2)]).run Try.prog w8 = .ok (.int .i64 L2.length) w8 := run_len_at 3 Try.underlying25 hM2
      clear hM1 hM2 hL1 hL2 hcnt
      go_wp2_with fail
      clear el1 el2 hl1 hl2
      go_loopw [109] (fun i wr => ∃ k : Nat, k ≤ l.length ∧ i = .int .i64 k ∧ Below w8.heap.size w8 wr) (fun i _ => l.length - (intOf i).toNat)
      case atStart => exact ⟨0, Nat.zero_le _, rfl, Below.refl _ _⟩
      case round =>
        rename World => wr
        obtain ⟨k, hk, rfl, hR⟩ := hrel
        have HR := hide hR
        have hwr := hR.size
        clear hR
        by_cases hlt : k < l.length
        · obtain ⟨b, off, rfl, hb8, hx⟩ := HI8.out (by omega)
          have f1 := (HR.out.cell (p := ⟨b, off + k, none⟩) hb8).trans (hx k hlt)
          obtain ⟨E, hE⟩ := HKey.out l[k] (List.getElem_mem _)
          obtain ⟨L1, hM1, _, hq1⟩ := (HW1f.out.grow HR.out).look
          obtain ⟨L2, hM2, _, hq2⟩ := (HW2f.out.grow HR.out).look
          obtain ⟨a1, c1, v1, s1, sr1, le1, li1⟩ := hq1 _ _ hE
          obtain ⟨a2, c2, v2, s2, sr2, _, _⟩ := hq2 _ _ hE
          have C18 := hide (same18 a1 a2 c1 c2 E wr sr1 sr2 (by omega) (fun i hi => Nat.le_trans (li1 i hi) (by omega)))
          have HM1 := hide hM1
          have HM2 := hide hM2
          generalize l[k] = kk at f1 v1 s1 v2 s2
          clear hx hE hq1 hq2 sr1 sr2 li1 hM1 hM2
          have hki : (k : Int) < (l.length : Int) := by omega
          have hk0 : (0 : Int) ≤ (k : Int) := by omega
          go_wp2_with (first | (at_lookup; first | refine wpList_lookup_ok rfl _ _ 25 2 33 rfl (int_enc Try.underlying2) Try.underlying25 HM1.out (.slice none 0 0) (by kernel_rfl) kk rfl rfl _ _ v1 s1 ?_ | refine wpList_lookup_ok rfl _ _ 25 2 33 rfl (int_enc Try.underlying2) Try.underlying25 HM2.out (.slice none 0 0) (by kernel_rfl) kk rfl rfl _ _ v2 s2 ?_) | (go_at_call 18; refine C18.out.mono ?_; rintro e w9 ⟨rfl, hB9⟩; have HB9 := hide hB9; clear hB9))
          go_roundw
          case rel => exact ⟨k + 1, by omega, by go_num, HR.out.trans (HB9.out.mono hwr)⟩
          case measure => simp [intOf]; omega
        · go_wp2_with fail
          go_ret
          exact ⟨rfl, HBf.out.trans (HR.out.mono HBf.out.size)⟩
end Go.Proofs.Qxb6602646a
