/-
  FnWriterSetScriptWriters, its main walk.
-/
import Derived.Test.Qxb6602646aM8
namespace Go.Proofs.Qxb6602646a
open Go.RowKit

theorem made_zero (w : World) (n : Nat) : (w.alloc (.cells (madeCells #[.int .i64 0] n) 3)).rowIs w.heap.size 3 n (fun _ => .int .i64 0) :=
  (rowIs_made w #[.int .i64 0] n 3).congr (fun i hi => by simp [Nat.mod_one])
/-- The list of the law's own, from block w2.heap.size on. -/
def SRel (w2 : World) (l : List Int) (v : Value) (wr : World) : Prop := wr.ownsRow w2.heap.size 3 1 v l.length (l.map (Value.int .i64)) ∧ Below w2.heap.size w2 wr
theorem SRel.own {w2 wr : World} {l : List Int} {v : Value} (h : SRel w2 l v wr) : IOwn wr v l := by
  refine ⟨h.1.1, ?_⟩
  rcases h.1.2 with h2 | ⟨g, cap, cur, rfl, hb, r⟩
  · exact .inl h2
  · exact .inr ⟨g, cap, cur, rfl, Nat.zero_le _, r⟩
theorem SRel.grow {w2 : World} {l : List Int} {v : Value} {wr w' : World} (h : SRel w2 l v wr) (k : Below wr.heap.size wr w') : SRel w2 l v w' := by
  refine ⟨?_, h.2.trans (k.mono h.2.size)⟩
  obtain ⟨h1, h2⟩ := h.1
  refine ⟨h1, ?_⟩
  rcases h2 with h2 | ⟨g, cap, cur, hv, hg, hh, r⟩
  · exact .inl h2
  · exact .inr ⟨g, cap, cur, hv, hg, by rw [k.block g (Array.getElem?_eq_some_iff.1 hh).1]; exact hh, r⟩
theorem SRel.push {w2 : World} {l : List Int} {v : Value} {wr W w1 : World} (h : SRel w2 l v wr) (hW : Below wr.heap.size wr W) {g cap : Nat} {x : Int}
    (h1 : w1.ownsRow w2.heap.size 3 1 (.slice (some ⟨g, 0, none⟩) (l.length + 1) cap) (l.length + 1) (l.map (Value.int .i64) ++ [.int .i64 x])) (hg : W.grownBy w1 v.ownBlock) :
    SRel w2 (l ++ [x]) (.slice (some ⟨g, 0, none⟩) (l.length + 1) cap) w1 := by
  refine ⟨?_, (h.2.trans (hW.mono h.2.size)).grown hg (Nat.le_trans h.2.size hW.size) (fun k hk => (h.1.lt k hk).1)⟩
  rw [List.map_append, List.length_append]
  exact h1
theorem IOwn.ints {w : World} {v : Value} {l : List Int} (h : IOwn w v l) : ∃ ad cap, v = .slice ad l.length cap ∧ IntsAt .i64 (· < w.heap.size) w ad l := by
  rcases h.form with ⟨rfl, rfl⟩ | ⟨g, cap, rfl, h1, _, h3, f, h4, h5⟩
  · exact ⟨none, 0, rfl, fun h => absurd h (by simp)⟩
  · refine ⟨_, cap, rfl, fun _ => ⟨g, 0, rfl, h3, fun j hj => ?_⟩⟩
    rw [Nat.zero_add, h4.cell (show j < cap by omega), h5 j hj]
theorem stepS_length (S : List Int) (s : Int) : (stepS S s).length ≤ S.length + 1 := by
  unfold stepS
  repeat' split
  all_goals simp
theorem scrS_length (script : List Int) : ∀ m, m ≤ script.length → (scrS script m).length ≤ m := by
  intro m
  induction m with
  | zero => intro _; simp [scrS]
  | succ m ih =>
    intro h
    rw [scrS_snoc script m h]
    have := stepS_length (scrS script m) script[m]
    have := ih (by omega)
    omega
theorem filter_at (p : Int → Bool) (l : List Int) (m : Nat) (hm : m < l.length) (hp : p l[m] = true) :
    ((l.take m).filter p).length < (l.filter p).length ∧ (l.filter p)[((l.take m).filter p).length]? = some l[m] ∧ ((l.take (m + 1)).filter p).length = ((l.take m).filter p).length + 1 := by
  have e : l.filter p = (l.take m).filter p ++ l[m] :: (l.drop (m + 1)).filter p := by
    conv => lhs; rw [← List.take_append_drop m l, List.filter_append, List.drop_eq_getElem_cons hm, List.filter_cons_of_pos hp]
  refine ⟨?_, ?_, ?_⟩
  · rw [e, List.length_append, List.length_cons]; omega
  · rw [e, List.getElem?_append_right (Nat.le_refl _)]; simp
  · rw [List.take_succ_eq_append_getElem hm, List.filter_append, List.length_append]
    simp [hp]
theorem filter_not (p : Int → Bool) (l : List Int) (m : Nat) (hm : m < l.length) (hp : p l[m] = false) : ((l.take (m + 1)).filter p).length = ((l.take m).filter p).length := by
  rw [List.take_succ_eq_append_getElem hm, List.filter_append, List.length_append]
  simp [hp]
theorem writesKey36_ext (S : Nat → Prop) (id ses : Int) (a : Option Addr) (c : Nat) (ops : List POp) (k : Int) {w : World} (h : OpsAt S w a ops) (hS : ∀ b, S b → b < w.heap.size) (hn : ops.length ≤ 1048576) (p : Ext w) :
    Calls Try.prog 36 #[.agg #[.int .i64 id, .int .i64 ses, .slice a ops.length c], .int .i64 k] p.val fun e w' => e = .returned (.bool (writesK ops k)) ∧ ∃ q : Ext w, w' = q.val :=
  (writesKey36 S id ses a c ops k p.val (h.kept (fun x hx => p.prop.block x (hS x hx))) (fun x hx => Nat.lt_of_lt_of_le (hS x hx) p.prop.size) hn).mono fun _ _ ⟨h1, h2⟩ => ⟨h1, p.grow h2⟩
/-- Behind the last emptying. -/
def StartRel (script : List Int) (st k : Nat) : Prop := st ≤ k ∧ scrS script st = [] ∧ ∀ j (h : j < script.length), st ≤ j → j < k → ¬ script[j] < -1
theorem StartRel.zero (script : List Int) : StartRel script 0 0 := ⟨Nat.le_refl _, rfl, fun j _ h1 h2 => by omega⟩
theorem StartRel.hit {script : List Int} {k : Nat} (hk : k < script.length) (hs : script[k] < -1) : StartRel script (k + 1) (k + 1) := by
  refine ⟨Nat.le_refl _, ?_, fun j _ h1 h2 => by omega⟩
  rw [scrS_snoc script k hk]
  unfold stepS
  rw [if_pos hs]
theorem StartRel.miss {script : List Int} {st k : Nat} (h : StartRel script st k) (hk : k < script.length) (hs : ¬ script[k] < -1) : StartRel script st (k + 1) := by
  refine ⟨Nat.le_succ_of_le h.1, h.2.1, fun j hj h1 h2 => ?_⟩
  by_cases e : j = k
  · subst e; exact hs
  · exact h.2.2 j hj h1 (by omega)

set_option maxHeartbeats 1000000 in
set_option maxRecDepth 20000 in
theorem main8 (a sa : Option Addr) (c sc : Nat) (S : Nat → Prop) (T : List PTxn) (script : List Int) (w : World) (hT : TxnsAt S w a T) (hSc : IntsAt .i64 S w sa script) (hS : ∀ b, S b → b < w.heap.size) (hn : T.length ≤ maxLen) (hn2 : script.length ≤ maxLen) (hnil : a = none → T.length = 0) :
    Calls Try.prog 8 #[.slice a T.length c, .slice sa script.length sc] w (okPost w) := by
  have HT := hide hT
  have HSC := hide hSc
  have HS := hide hS
  have HI := hide hnil
  have HN := hide hn
  have HN2 := hide hn2
  clear hT hSc hS hn hnil hn2
  go_enter Try.func8, Try.ntmps8
  go_wp2_with fail
  refine (bytes41 a sa c sc S T script.length w HT.out HN.out).mono ?_
  rintro e w' ⟨⟨r, rfl⟩, rfl⟩
  rename World => w
  cases r
  · go_wp2_with fail
    go_ret
    exact ⟨rfl, Below.refl _ _⟩
  go_wp2_with fail
  refine (scriptFits42 a sa c sc S T script _ HT.out HN.out HSC.out HN2.out).mono ?_
  rintro e w' ⟨⟨r, rfl, hr⟩, rfl⟩
  rename World => w
  cases r
  · clear hr
    go_wp2_with fail
    go_ret
    exact ⟨rfl, Below.refl _ _⟩
  obtain ⟨hb1, hb2, hb3, hb4⟩ := hr rfl
  have hTl : T.length ≤ 1048576 := by omega
  have HB := hide hb1
  have HO := hide hb2
  have HFit := hide hb4
  clear hr hb1 hb4
  have hmk := fun w => run_make_rows (P := Try.prog) 42 3 #[.int .i64 0] 1 8 Try.underlying42 (.int .i64 0) rfl info3 .i64 .i64 T.length (by omega) (by omega) w
  have C12 := hide (fun (W : World) (hW : Below w.heap.size w W) => toHistory0 a c (· < w.heap.size) T W ((HT.out.kept (fun b hb => hW.block b (HS.out b hb))).mono HS.out) (fun b hb => Nat.lt_of_lt_of_le hb hW.size) HB.out HI.out)
  go_upto_region 5 with fail
  go_cut [5] from 31 (fun v wc => SetUp w T script v wc)
  case first =>
    go_region_with (first | (go_at_call 12; refine (C12.out _ ?_).mono ?_; rotate_left; rintro e w1 ⟨rfl, hB1, ta, tc, sa', sc', hH, hT1, _⟩; rotate_left; first | exact (Below.refl _ _).drew | exact ((Below.refl _ _).alloc (Nat.le_refl _) _).drew) | (go_at_call 28; refine (new28_nil _ _ _ _ _ _ rfl _).mono ?_; rintro e w' ⟨rfl, rfl⟩))
    · go_wp2_with fail
      go_meet
      case rel =>
        have hB1 : Below w.heap.size w w1 := undrew hB1
        have hH : w1.rowIs w.heap.size 88 3 (hcell (.slice ta T.length tc) (.slice sa' 0 sc')) := hH
        have hT1 : TxnsAt (fun b => w.heap.size < b ∧ b < w1.heap.size) w1 ta T := hT1
        have hhl := hH.lt
        have hg : Below w1.heap.size w1 (w1.alloc (.cells (madeCells #[.int .i64 0] T.length) 3)) := (Below.refl _ _).alloc (Nat.le_refl _) _
        have := setup (script := script) (w0 := w) (w2 := w1.alloc (.cells (madeCells #[.int .i64 0] T.length) 3)) (w4 := ((w1.alloc (.cells (madeCells #[.int .i64 0] T.length) 3)).alloc (.map #[] 0)).alloc (.cells #[.pointer (some ⟨w.heap.size, 0, none⟩), .int .i64 1, .slice (some ⟨w1.heap.size, 0, none⟩) T.length T.length, .map (some (w1.alloc (.cells (madeCells #[.int .i64 0] T.length) 3)).heap.size)] 110)) (hb := w.heap.size) (ab := w1.heap.size) (hB1.trans (hg.mono hB1.size)) ((hg.cell (p := ⟨w.heap.size, 0, none⟩) hhl).trans (hH.cell (show 0 < 3 by omega))) (hT1.kept (fun b hb => hg.block b hb.2)) (fun b hb => ⟨by simp; omega, by omega⟩) ⟨by simp; omega, by omega⟩ (made_zero w1 T.length) hB1.size hTl (Below.refl _ _)
        simpa using this
    · go_wp2_with fail
      go_meet
      case rel =>
        have hA0 := made_zero w T.length
        have hg0 : Below w.heap.size w (w.alloc (.cells (madeCells #[.int .i64 0] T.length) 3)) := (Below.refl _ _).alloc (Nat.le_refl _) _
        have hsz0 : (w.alloc (.cells (madeCells #[.int .i64 0] T.length) 3)).heap.size = w.heap.size + 1 := by simp
        obtain ⟨wA, hwA⟩ : ∃ wA, wA = w.alloc (.cells (madeCells #[.int .i64 0] T.length) 3) := ⟨_, rfl⟩
        rw [← hwA] at hA0 hg0 hsz0 hB1 hH hT1
        have hB1 : Below wA.heap.size wA w1 := undrew hB1
        have hH : w1.rowIs wA.heap.size 88 3 (hcell (.slice ta T.length tc) (.slice sa' 0 sc')) := hH
        have hT1 : TxnsAt (fun b => wA.heap.size < b ∧ b < w1.heap.size) w1 ta T := hT1
        rw [hsz0] at hH hT1
        have hhl := hH.lt
        exact setup (SH := fun b => w.heap.size + 1 < b ∧ b < w1.heap.size) (hb := w.heap.size + 1) (ab := w.heap.size) (ta := ta) (tc := tc) (hg0.trans (hB1.mono hg0.size)) (hH.cell (show 0 < 3 by omega)) hT1 (fun b hb => ⟨hb.2, by omega⟩) ⟨hhl, by omega⟩ (hA0.of_block (hB1.block _ hA0.lt)) (Nat.le_refl _) hTl (by simpa using Below.refl _ _)
  case rest =>
    obtain ⟨Fp, SH, wb, hb, ta, tc, av, mb, rfl, hF, hR⟩ := hcut
    have HF := hide hF
    have HR := hide hR
    clear hF hR hmk C12
    go_upto_block 0 with fail
    go_cut [] from 6 (fun wc => ScrRel Fp SH w wb hb ta tc T av mb script script.length wc)
    case first =>
      go_wp2_with fail
      go_loopw [39] (fun i wr => ∃ m : Nat, m ≤ script.length ∧ i = .int .i64 m ∧ ScrRel Fp SH w wb hb ta tc T av mb script m wr) (fun i _ => script.length - (intOf i).toNat)
      case atStart => exact ⟨0, Nat.zero_le _, rfl, HR.out⟩
      case round =>
        rename World => wr
        obtain ⟨m, hm, rfl, hR⟩ := hrel
        have HR1 := hide hR
        clear hR HR
        by_cases hlt : m < script.length
        · obtain ⟨b, off, rfl, hbS, hx⟩ := HSC.out (by omega)
          have p1 := (HR1.out.1.cell (p := ⟨b, off + m, none⟩) (HS.out b hbS)).trans (hx m hlt)
          clear hx
          by_cases hs : script[m] < -1
          · obtain ⟨rnd, r1, r2, r3, r4, r5⟩ := HR1.out.reset HF.out hlt hs
            have C33 := hide (round33 r3)
            have C43 := hide (setRound43 (r := rnd + 1) r3 r4)
            have HR2 := hide r5
            clear r3 r4 r5
            generalize script[m] = s at p1 hs
            go_wp2_with (first | (go_at_call 33; refine C33.out.mono ?_; rintro e w' ⟨rfl, rfl⟩) | (go_at_call 43; refine C43.out.mono ?_; rintro e w' ⟨rfl, rfl⟩))
            go_roundw
            case rel => exact ⟨m + 1, by omega, by go_num, HR2.out⟩
            case measure => simp [intOf]; omega
          · have C32 := hide (HR1.out.add HF.out hlt hb3 hs (HFit.out m hlt) hTl HO.out)
            generalize script[m] = s at p1 hs C32
            go_wp2_with (go_at_call 32; refine C32.out.mono ?_; rintro e w' ⟨rfl, hR2⟩)
            go_roundw
            case rel => exact ⟨m + 1, by omega, by go_num, by assumption⟩
            case measure => simp [intOf]; omega
        · go_wp2_with fail
          go_meet
          case rel =>
            obtain rfl : m = script.length := by omega
            exact HR1.out
    case rest =>
      obtain ⟨wS, hwS⟩ : ∃ wS, wS = wc := ⟨_, rfl⟩
      rw [← hwS] at hcut
      rw [← hwS]
      clear hwS HR
      have HRS := hide hcut
      have HBS := hide hcut.1
      have hszS := hcut.1.size
      clear hcut
      go_upto_block 2 with fail
      go_cut [8] from 9 (fun v wc => wc = wS ∧ ∃ st : Nat, v = .int .i64 st ∧ StartRel script st script.length)
      case first =>
        go_wp2_with fail
        go_loop [8, 56] (fun v i => ∃ k : Nat, k ≤ script.length ∧ i = .int .i64 k ∧ ∃ st : Nat, v = .int .i64 st ∧ StartRel script st k) (fun _ i => script.length - (intOf i).toNat)
        case atStart => exact ⟨0, Nat.zero_le _, rfl, 0, rfl, StartRel.zero script⟩
        case round =>
          obtain ⟨k, hk, rfl, st, rfl, hst⟩ := hrel
          have HST := hide hst
          clear hst
          by_cases hlt : k < script.length
          · obtain ⟨b, off, rfl, hbS, hx⟩ := HSC.out (by omega)
            have p1 := (HBS.out.cell (p := ⟨b, off + k, none⟩) (HS.out b hbS)).trans (hx k hlt)
            clear hx
            by_cases hs : script[k] < -1
            · have HN := hide (StartRel.hit hlt hs)
              generalize script[k] = s at p1 hs
              go_wp2_with fail
              go_round
              case rel => exact ⟨k + 1, by omega, by go_num, k + 1, by go_num, HN.out⟩
              case measure => simp [intOf]; omega
            · have HN := hide (HST.out.miss hlt hs)
              generalize script[k] = s at p1 hs
              go_wp2_with fail
              go_round
              case rel => exact ⟨k + 1, by omega, by go_num, st, by go_num, HN.out⟩
              case measure => simp [intOf]; omega
          · go_wp2_with fail
            go_meet
            case rel =>
              obtain rfl : k = script.length := by omega
              exact ⟨rfl, st, rfl, HST.out⟩
      case rest =>
        obtain ⟨hwc, st, rfl, hst⟩ := hcut
        obtain rfl : wS = wc := hwc.symm
        have HST := hide hst
        clear hst
        go_upto_block 4 with fail
        go_cut [10] from 11 (fun v wc => SRel wS (scrS script script.length) v wc)
        case first =>
          go_wp2_with fail
          go_loopw [10, 11] (fun v i wr => ∃ k : Nat, st ≤ k ∧ k ≤ script.length ∧ i = .int .i64 k ∧ SRel wS (scrS script k) v wr) (fun _ i _ => script.length - (intOf i).toNat)
          case atStart => exact ⟨st, Nat.le_refl _, HST.out.1, rfl, by rw [HST.out.2.1]; exact ⟨World.ownsRow_nil _ _ _ _, Below.refl _ _⟩⟩
          case round =>
            rename World => wr
            obtain ⟨k, hk0, hk, rfl, hSR⟩ := hrel
            have HSR := hide hSR
            have hwr := hSR.2.size
            obtain ⟨ad, cap, rfl, hIn⟩ := hSR.own.ints
            have HIn := hide hIn
            clear hSR hIn
            by_cases hlt : k < script.length
            · obtain ⟨b, off, rfl, hbS, hx⟩ := HSC.out (by omega)
              have p1 := ((HSR.out.2.cell (p := ⟨b, off + k, none⟩) (Nat.lt_of_lt_of_le (HS.out b hbS) hszS)).trans (HBS.out.cell (p := ⟨b, off + k, none⟩) (HS.out b hbS))).trans (hx k hlt)
              have hge := HST.out.2.2 k hlt hk0 hlt
              have HSN := hide (scrS_snoc script k hlt)
              have hlen := scrS_length script k hk
              clear hx
              generalize script[k] = s at p1 hge HSN
              obtain ⟨l, hl⟩ : ∃ l, l = scrS script k := ⟨_, rfl⟩
              rw [← hl] at HSN hlen HSR HIn
              rw [← hl]
              clear hl
              by_cases hneg : s < 0
              · have HE : Hid (scrS script (k + 1) = l) := by
                  show _ = _
                  rw [HSN.out]; unfold stepS; rw [if_neg hge, if_pos hneg]
                go_wp2_with fail
                go_roundw
                case rel => exact ⟨k + 1, by omega, by omega, by go_num, by rw [HE.out]; exact HSR.out⟩
                case measure => simp [intOf]; omega
              · go_upto_block 6 with fail
                go_cut [13] from 68 to 95 (fun v wc => wc = wr ∧ v = .bool (decide (s ∈ l)))
                case first =>
                  go_wp2_with fail
                  go_loop [13, 82] (fun v i => ∃ j : Nat, j ≤ l.length ∧ i = .int .i64 j ∧ v = .bool false ∧ ∀ x (h : x < l.length), x < j → l[x] ≠ s) (fun _ i => l.length - (intOf i).toNat)
                  case atStart => exact ⟨0, Nat.zero_le _, rfl, rfl, fun x _ h => by omega⟩
                  case round =>
                    obtain ⟨j, hj, rfl, rfl, hno⟩ := hrel
                    have HNO := hide hno
                    clear hno
                    by_cases hjl : j < l.length
                    · obtain ⟨b', off', rfl, hb', hx'⟩ := HIn.out (by omega)
                      have p2 := hx' j hjl
                      clear hx'
                      have HGE := hide (List.getElem_mem hjl)
                      have HNX := hide (fun (hne : l[j] ≠ s) x (h : x < l.length) (hx : x < j + 1) => show l[x] ≠ s by
                        by_cases e : x = j
                        · subst e; exact hne
                        · exact HNO.out x h (by omega))
                      generalize l[j] = u at p2 HGE HNX
                      by_cases he : u = s
                      · have heb : (u == s) = true := by simp [he]
                        have HM : Hid (decide (s ∈ l) = true) := by
                          show _ = _
                          rw [← he]; simp [HGE.out]
                        clear he
                        go_wp2_with fail
                        go_meet
                        case rel => exact ⟨rfl, by rw [HM.out]⟩
                      · have heb : (u == s) = false := by simp [he]
                        have HX := hide (HNX.out he)
                        clear he
                        go_wp2_with fail
                        go_round
                        case rel => exact ⟨j + 1, by omega, by go_num, rfl, HX.out⟩
                        case measure => simp [intOf]; omega
                    · go_wp2_with fail
                      go_meet
                      case rel =>
                        refine ⟨rfl, ?_⟩
                        have : decide (s ∈ l) = false := by
                          rw [decide_eq_false_iff_not]
                          intro hmem
                          obtain ⟨x, hx, e⟩ := List.mem_iff_getElem.1 hmem
                          exact HNO.out x hx (by omega) e
                        rw [this]
                case rest =>
                  obtain ⟨hwc, rfl⟩ := hcut
                  obtain rfl : wr = wc := hwc.symm
                  by_cases hin : s ∈ l
                  · have hd : decide (s ∈ l) = true := by simp [hin]
                    have HE : Hid (scrS script (k + 1) = l) := by
                      show _ = _
                      rw [HSN.out]; unfold stepS; rw [if_neg hge, if_neg hneg, if_pos hin]
                    clear hin
                    rw [hd]
                    clear hd
                    go_wp2_with fail
                    go_roundw
                    case rel => exact ⟨k + 1, by omega, by omega, by go_num, by rw [HE.out]; exact HSR.out⟩
                    case measure => simp [intOf]; omega
                  · have hd : decide (s ∈ l) = false := by simp [hin]
                    have HE : Hid (scrS script (k + 1) = l ++ [s]) := by
                      show _ = _
                      rw [HSN.out]; unfold stepS; rw [if_neg hge, if_neg hneg, if_neg hin]
                    clear hin
                    rw [hd]
                    clear hd
                    obtain ⟨i0, hi, hz0, hz1, hz2⟩ := info_parts info3
                    go_wp2_with (at_builtin; refine wpList_append_lies _ rfl _ _ 42 rfl wS.heap.size 3 i0 (.int .i64 0) 1 8 Try.underlying42 hi hz0 hz1 hz2 rfl (by decide) (.slice ad l.length cap) l.length (l.map (Value.int .i64)) rfl (by exact World.ownsRow.alloc HSR.out.1 _) ⟨wr.heap.size, 0, none⟩ 1 1 [.int .i64 s] rfl rfl (by exact cell_one_new _ _ _) (ints_oneCell .i64 [s]) (by omega) (by unfold maxLen; omega) (by omega) (by simp; omega) (wr.heap.size + 1) (by simp) ?_; intro g3 cap3 w1 hown1 hgrow1 hat1 hlt1; have HY := hide (HSR.out.push ((Below.refl _ _).alloc (Nat.le_refl _) _) hown1 hgrow1); clear hown1 hgrow1 hat1 hlt1)
                    go_roundw
                    case rel => exact ⟨k + 1, by omega, by omega, by go_num, by rw [HE.out]; exact HY.out⟩
                    case measure => simp [intOf]; omega
            · go_wp2_with fail
              go_meet
              case rel =>
                obtain rfl : k = script.length := by omega
                exact HSR.out
        case rest =>
          obtain ⟨wE, hwE⟩ : ∃ wE, wE = wc := ⟨_, rfl⟩
          rw [← hwE] at hcut
          rw [← hwE]
          clear hwE
          obtain ⟨ad, cap, rfl, hIn⟩ := hcut.own.ints
          have hBE := HBS.out.trans (hcut.2.mono hszS)
          have HBE := hide hBE
          have hszE := hBE.size
          obtain ⟨rnd, al, recs, hWE, hIE⟩ : ∃ rnd al recs, WsAt Fp wE wb (.pointer (some ⟨hb, 0, none⟩)) rnd av al mb recs ∧ ScrInv T rnd al (absR recs) (scrS script script.length) := by
            obtain ⟨_, rnd, al, recs, h1, h2, _⟩ := HRS.out
            exact ⟨rnd, al, recs, h1.ws.grow hcut.2, h2⟩
          have HWE := hide hWE
          have HWr := hide hIE.wr
          have HRg := hide hIE.rng
          have HIn := hide hIn
          have hlen := scrS_length script script.length (Nat.le_refl _)
          have HTE := hide (HT.out.kept (fun b hb => hBE.block b (HS.out b hb)))
          obtain ⟨l, hl⟩ : ∃ l, l = scrS script script.length := ⟨_, rfl⟩
          rw [← hl] at HWr HRg HIn hlen
          rw [← hl]
          have HSE := hide (fun b (hb : S b) => Nat.lt_of_lt_of_le (HS.out b hb) hszE)
          clear hcut hIn hBE hWE hIE hl HRS HBS HST HSC HFit hszS
          go_wp2_with fail
          go_loopw [98] (fun i wr => ∃ k : Nat, k ≤ T.length ∧ i = .int .i64 k ∧ Below wE.heap.size wE wr) (fun i _ => T.length - (intOf i).toNat)
          case atStart => exact ⟨0, Nat.zero_le _, rfl, Below.refl _ _⟩
          case round =>
            rename World => wo
            obtain ⟨k, hk, rfl, hBo⟩ := hrel
            have HBo := hide hBo
            have hszo := hBo.size
            clear hBo
            by_cases hlt : k < T.length
            · obtain ⟨b, off, rfl, hbS, hx⟩ := HTE.out (by omega)
              have hbE := HSE.out b hbS
              have HX := hide hx
              obtain ⟨_, _, a', c', g3, g4⟩ := hx k hlt
              have f3 := (HBo.out.cell (p := ⟨b, off + k * 3 + 2, none⟩) hbE).trans g3
              have HG := hide g4
              have hol : T[k].ops.length ≤ 4096 := Nat.le_trans (opsSum_at T k hlt) HO.out
              generalize T[k].ops = ops at f3 HG hol
              clear hx g3 g4
              go_wp2_with fail
              go_loopw [107] (fun i wr => ∃ m : Nat, m ≤ ops.length ∧ i = .int .i64 m ∧ Below wE.heap.size wE wr) (fun i _ => ops.length - (intOf i).toNat)
              case atStart => exact ⟨0, Nat.zero_le _, rfl, HBo.out⟩
              case round =>
                rename World => wr
                obtain ⟨m, hm, rfl, hBr⟩ := hrel
                have HBr := hide hBr
                have hszr := hBr.size
                clear hBr f3
                by_cases hml : m < ops.length
                · obtain ⟨b', off', rfl, hbS', hx'⟩ := HG.out (by omega)
                  have hbE' := HSE.out b' hbS'
                  obtain ⟨p1, p2, p3⟩ := hx' m hml
                  have q1 := (HBr.out.cell (p := ⟨b', off' + m * 3, none⟩) hbE').trans p1
                  have q2 := (HBr.out.cell (p := ⟨b', off' + m * 3 + 1, none⟩) hbE').trans p2
                  have q3 := (HBr.out.cell (p := ⟨b', off' + m * 3 + 2, none⟩) hbE').trans p3
                  generalize ops[m] = o at q1 q2 q3
                  clear p1 p2 p3 hx'
                  have hA : Below wE.heap.size wE ((wr.alloc (.cells #[.int .u8 o.kind, .int .i64 o.key, .int .i64 o.val] 40)).alloc (.cells #[.int .u8 o.kind, .int .i64 o.key, .int .i64 o.val] 40)) := (HBr.out.alloc hszr _).alloc (by simp; omega) _
                  by_cases hkd : o.kind = 1
                  · have hkb : (o.kind == 1) = true := by simp [hkd]
                    have C17 := hide (fun w => isWrite_is true o.kind o.key o.val hkb w)
                    clear hkd hkb
                    have C44 := hide (writers44 (HWE.out.grow hA) o.key)
                    have HWk := hide (HWr.out o.key)
                    have HA := hide hA
                    clear hA
                    go_upto_block 12 with (first | (go_at_call 17; refine (C17.out _).mono ?_; rintro e w' ⟨rfl, rfl⟩) | (go_at_call 44; refine C44.out.mono ?_; rintro e wg ⟨vg, rfl, hIg, hBg⟩; rw [HWk.out] at hIg; obtain ⟨gd, gcap, rfl, hIg2⟩ := hIg.ints; have HIg := hide hIg2; have HBg := hide hBg; clear hIg hIg2 hBg))
                    have hszg : wr.heap.size + 2 ≤ wg.heap.size := by have := HBg.out.size; simpa using this
                    have hBg : Below wE.heap.size wE wg := HA.out.trans (HBg.out.mono (by have := HA.out.size; simpa using this))
                    have hbox : wg.cell? ⟨wr.heap.size, 1, none⟩ = some (.int .i64 o.key) := by
                      rw [HBg.out.cell (p := ⟨wr.heap.size, 1, none⟩) (by simp; omega)]
                      exact cal (cell_box wr #[.int .u8 o.kind, .int .i64 o.key, .int .i64 o.val] 40 1 _ rfl) _
                    have HBgE := hide hBg
                    obtain ⟨L, hL⟩ : ∃ L, L = l.filter (wrT T o.key) := ⟨_, rfl⟩
                    rw [← hL] at HIg
                    rw [← hL]
                    have HL := hide hL
                    have hLl : L.length ≤ 4096 := by
                      rw [hL]
                      have := List.length_filter_le (wrT T o.key) l
                      omega
                    have hszEg := hBg.size
                    clear q1 q2 q3 C17 C44 HA HBg hBg hL HWk HWE HWr
                    go_cut [20] from 108 to 151 (fun v wc => v = .int .i64 (L.length : Nat) ∧ Below wg.heap.size wg wc)
                    case first =>
                      go_wp2_with fail
                      go_loopw [20, 120] (fun v i wi => ∃ n : Nat, n ≤ l.length ∧ i = .int .i64 n ∧ v = .int .i64 (((l.take n).filter (wrT T o.key)).length : Nat) ∧ Below wg.heap.size wg wi) (fun _ i _ => l.length - (intOf i).toNat)
                      case atStart => exact ⟨0, Nat.zero_le _, rfl, by simp, Below.refl _ _⟩
                      case round =>
                        rename World => wi
                        obtain ⟨n, hn, rfl, rfl, hBi⟩ := hrel
                        have HBi := hide hBi
                        have hszi := hBi.size
                        have hBEi := HBgE.out.trans (hBi.mono hszEg)
                        have hboxi := (hBi.cell (p := ⟨wr.heap.size, 1, none⟩) (by simp; omega)).trans hbox
                        have hboxl : wr.heap.size < wi.heap.size := by omega
                        clear hBi hbox
                        by_cases hnl : n < l.length
                        · obtain ⟨bs, os, rfl, hbs, hxs⟩ := HIn.out (by omega)
                          have pu := (hBEi.cell (p := ⟨bs, os + n, none⟩) hbs).trans (hxs n hnl)
                          have hbsi : bs < wi.heap.size := by have hbs : bs < wE.heap.size := hbs; omega
                          obtain ⟨hu0, hu1⟩ := HRg.out l[n] (List.getElem_mem hnl)
                          have HFA := hide (filter_at (wrT T o.key) l n hnl)
                          have HFN := hide (filter_not (wrT T o.key) l n hnl)
                          obtain ⟨t, ht⟩ : ∃ t : Nat, l[n] = (t : Int) := ⟨l[n].toNat, by omega⟩
                          rw [ht] at pu hu0 hu1 HFA HFN
                          have htT : t < T.length := by omega
                          obtain ⟨t1, t2, ao, co, t3, t4⟩ := HX.out t htT
                          have s1 := (hBEi.cell (p := ⟨b, off + t * 3, none⟩) hbE).trans t1
                          have s2 := (hBEi.cell (p := ⟨b, off + t * 3 + 1, none⟩) hbE).trans t2
                          have s3 := (hBEi.cell (p := ⟨b, off + t * 3 + 2, none⟩) hbE).trans t3
                          have hbi : b < wi.heap.size := by omega
                          have hops : T[t].ops.length ≤ 1048576 := by have := opsSum_at T t htT; have := HO.out; omega
                          have hOt : OpsAt (· < wE.heap.size) wi ao T[t].ops := (t4.kept (fun x hx => hBEi.block x (HSE.out x hx))).mono HSE.out
                          have C36 := hide (fun (p : Ext wi) => writesKey36_ext (· < wE.heap.size) T[t].id T[t].ses ao co T[t].ops o.key hOt (fun x hx => Nat.lt_of_lt_of_le hx hBEi.size) hops p)
                          clear hOt
                          rw [wrT_nat T o.key t htT] at HFA HFN
                          generalize writesK T[t].ops o.key = wk at C36 HFA HFN
                          generalize T[t].id = tid at s1 C36
                          generalize T[t].ses = tse at s2 C36
                          generalize T[t].ops.length = tol at s3 C36
                          clear t1 t2 t3 t4 hxs ht hops hBEi
                          have xc := @Ext.cell wi
                          have xn := Ext.some wi
                          go_upto_region 47 with fail
                          refine wp_region_ext (by kernel_rfl) (by kernel_rfl) ?_
                          repeat (go_big_quiet_step (exact C36.out _))
                          refine wpQuiet_nil ?_
                          rintro _ ⟨px, rfl⟩
                          have HPX := hide (HBi.out.trans (px.prop.mono hszi))
                          cases wk
                          · have HE := hide (HFN.out rfl)
                            clear C36 HFA HFN xc xn s1 s2 s3 pu
                            go_wp2_with fail
                            go_roundw
                            case rel => exact ⟨n + 1, by omega, by go_num, by rw [HE.out], HPX.out⟩
                            case measure => simp [intOf]; omega
                          · obtain ⟨f1, f2, f3⟩ := HFA.out rfl
                            rw [← HL.out] at f1 f2
                            have HE := hide f3
                            clear f3
                            obtain ⟨gb, go, rfl, hgb, hxg⟩ := HIg.out (by omega)
                            have pg := (HPX.out.cell (p := ⟨gb, go + ((l.take n).filter (wrT T o.key)).length, none⟩) hgb).trans (hxg _ f1)
                            rw [show L[((l.take n).filter (wrT T o.key)).length] = (t : Int) by rw [List.getElem?_eq_getElem f1] at f2; exact Option.some.inj f2] at pg
                            clear C36 HFA HFN xc xn s1 s2 s3 pu f2 hxg
                            obtain ⟨j, hj⟩ : ∃ j, j = ((l.take n).filter (wrT T o.key)).length := ⟨_, rfl⟩
                            rw [← hj] at f1 pg HE
                            rw [← hj]
                            have f1' : (j : Int) < (L.length : Int) := by omega
                            have f2' : decide ((L.length : Int) ≤ (j : Int)) = false := by simp; omega
                            clear hj
                            go_wp2_with fail
                            go_roundw
                            case rel => exact ⟨n + 1, by omega, by go_num, by rw [HE.out]; go_num, HPX.out⟩
                            case measure => simp [intOf]; omega
                        · go_wp2_with fail
                          go_meet
                          case rel =>
                            obtain rfl : n = l.length := by omega
                            rw [List.take_length, ← HL.out]
                            exact ⟨rfl, HBi.out⟩
                    case rest =>
                      obtain ⟨rfl, hBc⟩ := hcut
                      have HBc := hide hBc
                      clear hBc
                      go_wp2_with fail
                      go_roundw
                      case rel => exact ⟨m + 1, by omega, by go_num, HBgE.out.trans (HBc.out.mono hszEg)⟩
                      case measure => simp [intOf]; omega
                  · have hkb : (o.kind == 1) = false := by simp [hkd]
                    have C17 := hide (fun w => isWrite_is false o.kind o.key o.val hkb w)
                    clear hkd hkb
                    have HA := hide hA
                    clear hA
                    go_wp2_with (go_at_call 17; refine (C17.out _).mono ?_; rintro e w' ⟨rfl, rfl⟩)
                    go_roundw
                    case rel => exact ⟨m + 1, by omega, by go_num, HA.out⟩
                    case measure => simp [intOf]; omega
                · go_wp2_with fail
                  go_roundw
                  case rel => exact ⟨k + 1, by omega, by go_num, HBr.out⟩
                  case measure => simp [intOf]; omega
            · go_wp2_with fail
              go_ret
              exact ⟨rfl, HBE.out.trans (HBo.out.mono hszE)⟩
end Go.Proofs.Qxb6602646a
