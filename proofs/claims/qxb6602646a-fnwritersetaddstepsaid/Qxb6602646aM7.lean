/-
  FnWriterSetAddStep, walked.
-/
import Derived.Test.Qxb6602646aM7a
namespace Go.Proofs.Qxb6602646a
open Go.RowKit

theorem alOf_len (al : List Int) (rnd t : Int) : (alOf al rnd t).length = al.length := by unfold alOf; split <;> simp
theorem alOf_at (al : List Int) (rnd t : Int) (i : Nat) (h : i < al.length) (ht : 0 ≤ t ∨ actOf al rnd t = false) : (alOf al rnd t)[i]? = some (if (actOf al rnd t && ((i : Int) == t)) = true then rnd else al[i]) := by
  unfold alOf
  by_cases ha : actOf al rnd t = true
  · have ht : 0 ≤ t := by
      rcases ht with h | h
      · exact h
      · rw [ha] at h; cases h
    simp only [ha, if_true, Bool.true_and]
    by_cases e : t.toNat = i
    · have e2 : ((i : Int) == t) = true := by simp; omega
      rw [e2, if_pos rfl, List.getElem?_set, if_pos e, if_pos (by omega)]
    · have e2 : ((i : Int) == t) = false := by simp; omega
      rw [e2, List.getElem?_set, if_neg e]
      simp [h]
  · have ha' : actOf al rnd t = false := by simpa using ha
    simp [ha', h]
theorem ends7 (l : List Int) : l = [] ∨ ∃ a e, l = a ++ [e] := by
  cases h : l.reverse with
  | nil => exact .inl (by simpa using h)
  | cons e a => exact .inr ⟨a.reverse, e, by have := congrArg List.reverse h; simpa using this⟩
theorem opsT_nat (T : List PTxn) (tn : Nat) (h : tn < T.length) : opsT T (tn : Int) = T[tn].ops := by simp [opsT, h]
/-- What the set holds of a key of the arguments, behind the add. -/
theorem aOf_key (T : List PTxn) (al : List Int) (rnd t : Int) (keys rs : List Int) (LL : List (List Int)) (hnd : keys.Nodup) (i : Nat) (hi : i < keys.length) (hr : i < rs.length) (hl : i < LL.length) :
    lkG (aOf T al rnd t (aList keys rs LL)) keys[i] = some (if (actOf al rnd t && writesK (opsT T t) keys[i]) = true then (rnd, addTx rnd t (some (rs[i], LL[i]))) else (rs[i], LL[i])) := by
  have h0 := aList_lk keys rs LL hnd i hi hr hl
  unfold aOf
  by_cases ha : actOf al rnd t = true
  · rw [ha, if_pos rfl, lk_adds, h0, Bool.true_and]
    split <;> rfl
  · have ha' : actOf al rnd t = false := by simpa using ha
    rw [ha', if_neg (by simp), h0]
    simp
theorem aOf_fresh (T : List PTxn) (al : List Int) (rnd t : Int) (keys rs : List Int) (LL : List (List Int)) (k : Int) (ha : actOf al rnd t = true) (hw : writesK (opsT T t) k = true) (hk : k ∉ keys) :
    lkG (aOf T al rnd t (aList keys rs LL)) k = some (rnd, [t]) := by
  unfold aOf
  rw [ha, if_pos rfl, lk_adds, hw, if_pos rfl, lkG_none_of _ _ (by rw [aList_keys]; exact hk), addTx_none]
theorem aOf_len (T : List PTxn) (al : List Int) (rnd t : Int) (keys rs : List Int) (LL : List (List Int)) :
    (aOf T al rnd t (aList keys rs LL)).length = keys.length + (if actOf al rnd t = true then freshN keys (opsT T t) (opsT T t).length else 0) := by
  unfold aOf
  by_cases ha : actOf al rnd t = true
  · rw [ha, if_pos rfl, if_pos rfl]
    have := fold_len rnd t (aList keys rs LL) (opsT T t) (opsT T t).length (Nat.le_refl _)
    rw [List.take_length, aList_keys, aList_len] at this
    exact this
  · rw [if_neg ha, if_neg ha, aList_len]; rfl
theorem writesKey36_ext7 (S : Nat → Prop) (id ses : Int) (a : Option Addr) (c : Nat) (ops : List POp) (k : Int) {w : World} (h : OpsAt S w a ops) (hS : ∀ b, S b → b < w.heap.size) (hn : ops.length ≤ 1048576) (p : Ext w) :
    Calls Try.prog 36 #[.agg #[.int .i64 id, .int .i64 ses, .slice a ops.length c], .int .i64 k] p.val fun e w' => e = .returned (.bool (writesK ops k)) ∧ ∃ q : Ext w, w' = q.val :=
  (writesKey36 S id ses a c ops k p.val (h.kept (fun x hx => p.prop.block x (hS x hx))) (fun x hx => Nat.lt_of_lt_of_le (hS x hx) p.prop.size) hn).mono fun _ _ ⟨h1, h2⟩ => ⟨h1, p.grow h2⟩
theorem freshN_yes {keys : List Int} {ops : List POp} {a : Nat} (h : freshAt keys ops a = true) : freshN keys ops (a + 1) = freshN keys ops a + 1 := by rw [freshN, if_pos h]
theorem freshN_no {keys : List Int} {ops : List POp} {a : Nat} (h : freshAt keys ops a = false) : freshN keys ops (a + 1) = freshN keys ops a := by rw [freshN, if_neg (by rw [h]; simp)]; rfl
theorem freshAt_of (keys : List Int) (ops : List POp) (a : Nat) (h : a < ops.length) : freshAt keys ops a = ((ops[a].kind == 1) && !(writesK (ops.take a) ops[a].key) && !(decide (ops[a].key ∈ keys))) := by unfold freshAt; rw [opAt_eq ops a h]
theorem writesK_at {ops : List POp} {a : Nat} (h : a < ops.length) (hk : ops[a].kind = 1) : writesK ops ops[a].key = true := writesK_true h hk rfl
theorem writesK_take_true {ops : List POp} {a b : Nat} {k : Int} (hb : b < ops.length) (hba : b < a) (h1 : ops[b].kind = 1) (h2 : ops[b].key = k) : writesK (ops.take a) k = true :=
  writesK_true (m := b) (by rw [List.length_take]; omega) (by rw [List.getElem_take]; exact h1) (by rw [List.getElem_take]; exact h2)
theorem writesK_take_false {ops : List POp} {a : Nat} {k : Int} (h : ∀ b (hb : b < ops.length), b < a → ¬ (ops[b].kind = 1 ∧ ops[b].key = k)) : writesK (ops.take a) k = false := by
  cases hq : writesK (ops.take a) k with
  | false => rfl
  | true =>
    unfold writesK at hq
    rw [List.any_eq_true] at hq
    obtain ⟨o, ho, h2⟩ := hq
    obtain ⟨b, hb, rfl⟩ := List.getElem_of_mem ho
    rw [List.length_take] at hb
    rw [List.getElem_take] at h2
    refine absurd ?_ (h b (by omega) (by omega))
    simpa using h2
theorem intsOf_clone {et : TypeId} {a : Option Addr} {l : List Int} {w : World} {e : Ending} {w' : World} (h : clonePost et a l w e w') : ∃ ta tc, e = .returned (.slice ta l.length tc) ∧ IntsAt .i64 (· < w'.heap.size) w' ta l ∧ Below w.heap.size w w' := by
  obtain ⟨ta, tc, h1, h2, h3⟩ := cloneRel_of h
  exact ⟨ta, tc, h1, h3.mono fun _ hb => hb.2, h2⟩

set_option maxHeartbeats 16000000 in
set_option maxRecDepth 20000 in
theorem main7 (a aa ka ra la : Option Addr) (c ac kc rc lc : Nat) (rnd t : Int) (S : Nat → Prop) (T : List PTxn) (al keys rs : List Int) (LL : List (List Int)) (w : World) (hT : TxnsAt S w a T) (hA : IntsAt .i64 S w aa al) (hK : IntsAt .i64 S w ka keys) (hR : IntsAt .i64 S w ra rs) (hL : ListsAt S w la LL)
    (hS : ∀ b, S b → b < w.heap.size) (hn : T.length ≤ maxLen) (hn2 : LL.length ≤ maxLen) (hnil : a = none → T.length = 0) (hlnil : la = none → LL.length = 0) :
    Calls Try.prog 7 #[.slice a T.length c, .int .i64 rnd, .slice aa al.length ac, .slice ka keys.length kc, .slice ra rs.length rc, .slice la LL.length lc, .int .i64 t] w (okPost w) := by
  have HT := hide hT
  have HA := hide hA
  have HK := hide hK
  have HR := hide hR
  have HL := hide hL
  have HS := hide hS
  have HI := hide hnil
  have HLI := hide hlnil
  have HN := hide hn
  have HN2 := hide hn2
  clear hT hA hK hR hL hS hn hnil hn2 hlnil
  go_enter Try.func7, Try.ntmps7
  go_wp2_with fail
  refine (bytes26 a aa ka ra la c al.length ac keys.length kc rs.length rc lc rnd t S T LL w HT.out HL.out HN.out HN2.out).mono ?_
  rintro e w' ⟨⟨r, rfl⟩, rfl⟩
  rename World => w
  cases r
  · go_wp2_with fail
    go_ret
    exact ⟨rfl, Below.refl _ _⟩
  go_wp2_with fail
  refine (fits27 a aa ka ra la c ac kc rc lc rnd t S T al keys rs LL _ HT.out HA.out HK.out HL.out HS.out HN.out).mono ?_
  rintro e w1 ⟨⟨r, rfl, hr⟩, hB1⟩
  have HB1 := hide hB1
  have hsz1 := hB1.size
  clear hB1
  cases r
  · clear hr
    go_wp2_with fail
    go_ret
    exact ⟨rfl, HB1.out⟩
  have hF := hr rfl
  have HF := hide hF
  have hTl : T.length ≤ 1048576 := by have := hF.bytes; omega
  have hal := hF.an
  have hkl := hF.kl
  have HRL := hide hF.rl
  have HLLn := hide hF.ll
  have hrl4 : rs.length ≤ 4096 := by have := hF.rl; omega
  have hll4 : LL.length ≤ 4096 := by have := hF.ll; omega
  clear hr hF HN HN2
  go_upto_region 5 with fail
  go_cut [15] from 54 to 63 (fun v wc => wc = w1 ∧ v = .bool (actOf al rnd t))
  case first =>
    rcases HF.out.tt with rfl | ⟨tn, rfl, hta, _⟩
    · go_wp2_with fail
      go_meet
      case rel => exact ⟨rfl, by simp [actOf]⟩
    · obtain ⟨b, off, rfl, hb, hx⟩ := HA.out (by omega)
      have f1 := (HB1.out.cell (p := ⟨b, off + tn, none⟩) (HS.out b hb)).trans (hx tn hta)
      have HD : Hid (actOf al rnd (tn : Int) = (al[tn] != rnd)) := by
        show _ = _
        simp [actOf, hta]
      generalize al[tn] = x at f1 HD
      have i1 : (tn : Int) < (al.length : Int) := by omega
      have i2 : (0 : Int) ≤ (tn : Int) := by omega
      have i3 : ((tn : Int) != -1) = true := by simp
      clear hx
      go_wp2_with fail
      go_meet
      case rel => exact ⟨rfl, by rw [HD.out]⟩
  case rest =>
    obtain ⟨hwc, rfl⟩ := hcut
    obtain rfl : w1 = wc := hwc.symm
    have HT1 := hide (HT.out.kept (fun x hx => HB1.out.block x (HS.out x hx)))
    go_wp2_with fail
    refine (toHistory0 a c S T w1 HT1.out (fun x hx => Nat.lt_of_lt_of_le (HS.out x hx) hsz1) HF.out.bytes HI.out).mono ?_
    rintro e w2 ⟨rfl, hB2, ta, tc, sa', sc', hH, hT2, _⟩
    have HH := hide hH
    have HT2 := hide hT2
    have HB12 := hide hB2
    have HB2 := hide (HB1.out.trans (hB2.mono hsz1))
    have hsz2 := HB2.out.size
    have hsz12 := hB2.size
    clear hH hT2 hB2
    go_wp2_with fail
    refine (cloneInts_any aa ac S al w2 (HA.out.kept (fun x hx => HB2.out.block x (HS.out x hx))) (fun x hx => Nat.lt_of_lt_of_le (HS.out x hx) hsz2) hal).mono ?_
    intro e w3 hcl
    obtain ⟨va, vc, rfl, hav, hav2, hB3⟩ := clone_own hcl hal
    have HAv := hide hav
    have HAv2 := hide hav2
    have HB23 := hide hB3
    have HB3 := hide (HB2.out.trans (hB3.mono hsz2))
    have hsz3 := HB3.out.size
    have hsz23 := hB3.size
    clear hcl hav hav2 hB3
    go_wp2_with fail
    refine (cloneInt64s_any ka kc S keys w3 (HK.out.kept (fun x hx => HB3.out.block x (HS.out x hx))) (fun x hx => Nat.lt_of_lt_of_le (HS.out x hx) hsz3) (by omega)).mono ?_
    intro e w4 hcl
    obtain ⟨va4, vc4, rfl, hI4, hB4⟩ := intsOf_clone hcl
    have HI4 := hide hI4
    have HB34 := hide hB4
    have HB4 := hide (HB3.out.trans (hB4.mono hsz3))
    have hsz4 := HB4.out.size
    have hsz34 := hB4.size
    clear hcl hI4 hB4
    go_wp2_with fail
    refine (cloneInts_any ra rc S rs w4 (HR.out.kept (fun x hx => HB4.out.block x (HS.out x hx))) (fun x hx => Nat.lt_of_lt_of_le (HS.out x hx) hsz4) (by omega)).mono ?_
    intro e w5 hcl
    obtain ⟨va5, vc5, rfl, hI5, hB5⟩ := intsOf_clone hcl
    have HI5 := hide hI5
    have HB45 := hide hB5
    have HB5 := hide (HB4.out.trans (hB5.mono hsz4))
    have hsz5 := HB5.out.size
    have hsz45 := hB5.size
    clear hcl hI5 hB5
    go_wp2_with fail
    refine (lists31 la lc S LL w5 (HL.out.kept (fun x hx => HB5.out.block x (HS.out x hx))) (fun x hx => Nat.lt_of_lt_of_le (HS.out x hx) hsz5) HLI.out (by omega) HF.out.each).mono ?_
    rintro e w6 ⟨va6, vc6, tvs, rfl, hcells, hOL, hB6⟩
    have HB56 := hide hB6
    have hsz56 := hB6.size
    have erl := HRL.out
    have ell := HLLn.out
    have htl : tvs.length = keys.length := by rw [hOL.len]; exact ell
    have HCe := hide hcells
    have HOL := hide hOL
    clear hcells hOL hB6
    have HI6 := hide (ints_grow (ints_grow HI4.out HB45.out) HB56.out)
    have HI7 := hide (ints_grow HI5.out HB56.out)
    have HZn := hide (zList_len keys rs tvs LL)
    have C28 := hide (new28 (some ⟨w1.heap.size, 0, none⟩) rnd va va4 va5 va6 al.length vc vc4 vc5 vc6 (· < w6.heap.size) (zList keys rs tvs LL) w6 (by rw [zList_key]; exact HI6.out) (by rw [zList_rnd keys rs tvs LL erl]; exact HI7.out) (fun hpos => by
      rw [zList_len] at hpos
      obtain ⟨g, h1, h2, h3⟩ := HCe.out (by omega)
      refine ⟨g, h1, h2, fun i hi => ?_⟩
      rw [zList_at]
      have hi' : i < keys.length := by rw [zList_len] at hi; exact hi
      have hit : i < tvs.length := by omega
      have hil : i < LL.length := by omega
      obtain ⟨ad, cap, e1, _⟩ := own_ints (HOL.out.each i hit hil)
      have e2 : tvs.getD i (.bool false) = tvs[i] := by simp [hit]
      have e3 : LL.getD i [] = LL[i] := by simp [hil]
      simp only [e2, e3]
      exact ⟨ad, cap, e1, by rw [h3 i hit, e1]⟩) (fun _ h => h) (by rw [zList_len]; exact hkl) (by rw [zList_key]; exact HF.out.nd))
    rw [zList_len] at C28
    have C28' : Hid (Calls Try.prog 28 #[.pointer (some ⟨w1.heap.size, 0, none⟩), .int .i64 rnd, .slice va al.length vc, .slice va4 keys.length vc4, .slice va5 rs.length vc5, .slice va6 LL.length vc6] w6 (new28Post w6 (.pointer (some ⟨w1.heap.size, 0, none⟩)) rnd (.slice va al.length vc) (zList keys rs tvs LL))) := by
      show Calls _ _ _ _ _
      rw [erl, ell]
      exact C28.out
    have HTL := hide htl
    clear erl ell htl C28
    go_wp2_with fail
    refine C28'.out.mono ?_
    rintro e w7 ⟨recs, wr, hN, rfl, hw7⟩
    have erl := HRL.out
    have ell := HLLn.out
    have hB36 : Below w3.heap.size w3 w6 := (HB34.out.trans (HB45.out.mono hsz34)).trans (HB56.out.mono (Nat.le_trans hsz34 hsz45))
    have hB26 : Below w2.heap.size w2 w6 := HB23.out.trans (hB36.mono hsz23)
    have hs35 : w3.heap.size ≤ w5.heap.size := Nat.le_trans hsz34 hsz45
    have hAv6 : IOwn w6 (.slice va al.length vc) al := HAv.out.kept (fun g hg => hB36.block g (HAv.out.lt hg))
    obtain ⟨hP, hAb⟩ := setupA (rnd := rnd) HH.out HT2.out hB26 hAv6 HAv2.out (fun b hb hm => by
      have h1 := HAv.out.lt hb
      have h2 := HOL.out.lo b hm
      omega) ⟨HOL.out.len, HOL.out.each, HOL.out.nodup, fun b hb => Nat.le_trans (Nat.le_trans hsz23 hs35) (HOL.out.lo b hb), HOL.out.hi⟩ ell HF.out.nd hN hw7
    have hB7 : Below w.heap.size w w7 := by
      have h1 := HB2.out.trans (hB26.mono hsz2)
      have h2 := h1.trans (hN.bel.mono h1.size)
      rw [hw7]
      exact h2.alloc h2.size _
    have hlens : ∀ p ∈ recs, p.2.tx.length ≤ 1048576 := fun p hp => by
      have hm : (p.1, (p.2.rnd, p.2.tx)) ∈ absR recs := List.mem_map.2 ⟨p, hp, rfl⟩
      rw [hAb] at hm
      unfold aList at hm
      obtain ⟨i, hi, he⟩ := List.mem_map.1 hm
      have hi' : i < LL.length := by have := List.mem_range.1 hi; omega
      have e3 : LL.getD i [] = LL[i] := by simp [hi']
      rw [e3] at he
      have : p.2.tx = LL[i] := (congrArg (fun q : Int × (Int × List Int) => q.2.2) he).symm
      rw [this]
      exact HF.out.each i hi'
    have C32 := hide (addA HF.out hP hAb hB7 hsz2 hlens)
    clear hP hAb hB7 hlens hN hw7 hB36 hB26 hs35 hAv6 HZn C28' HTL erl ell HI6 HI7 HCe HOL HI4 HI5 HB34 HB45 HB56 HB23 HAv HAv2 HH HT2 HB12 HT1 hsz56 hsz45 hsz34 hsz23 hsz12 HB3 HB4 HB5 hsz3 hsz4 hsz5
    generalize wr.heap.size = wb at *
    go_wp2_with fail
    refine C32.out.mono ?_
    rintro e w8 ⟨rfl, hPA⟩
    have HPA := hide hPA
    clear hPA C32 HB2 hsz2
    generalize w1.heap.size = hb at *
    have C33 := hide HPA.out.round
    obtain ⟨ba, bc, hC34, hI8⟩ := HPA.out.added
    have C34 := hide hC34
    have HI8 := hide hI8
    have hALn := alOf_len al rnd t
    clear hC34 hI8
    go_wp2_with (first | (go_at_call 33; refine C33.out.mono ?_; rintro e w' ⟨rfl, hw⟩; obtain rfl : w8 = w' := hw.symm) | (go_at_call 34; refine C34.out.mono ?_; rintro e w' ⟨rfl, hw⟩; obtain rfl : w8 = w' := hw.symm))
    have htc : 0 ≤ t ∨ actOf al rnd t = false := by
      rcases HF.out.tt with rfl | ⟨tn, rfl, _⟩
      · exact .inr (by simp [actOf])
      · exact .inl (by omega)
    have HTC := hide htc
    obtain ⟨act, hact⟩ : ∃ act, act = actOf al rnd t := ⟨_, rfl⟩
    have HACT := hide hact
    rw [← hact]
    clear htc hact C33 C34
    go_loop [92] (fun i => ∃ k : Nat, k ≤ al.length ∧ i = .int .i64 k) (fun i => al.length - (intOf i).toNat)
    case atStart => exact ⟨0, Nat.zero_le _, rfl⟩
    case round =>
      obtain ⟨k, hk, rfl⟩ := hrel
      by_cases hlt : k < al.length
      · obtain ⟨b, off, rfl, hb, hx⟩ := HA.out (by omega)
        have f1 := (HPA.out.1.cell (p := ⟨b, off + k, none⟩) (HS.out b hb)).trans (hx k hlt)
        obtain ⟨b2, o2, rfl, hb2, hx2⟩ := HI8.out (by rw [hALn]; omega)
        have f2 := hx2 k (by rw [hALn]; exact hlt)
        have e2 := alOf_at al rnd t k hlt HTC.out
        rw [List.getElem?_eq_getElem (by rw [hALn]; exact hlt)] at e2
        rw [Option.some.inj e2, ← HACT.out] at f2
        have hki : (k : Int) < (al.length : Int) := by omega
        have hk0 : (0 : Int) ≤ (k : Int) := by omega
        have hki2 : (k : Int) < ((alOf al rnd t).length : Int) := by rw [hALn]; exact hki
        clear hx hx2 e2
        generalize al[k] = x at f1 f2
        cases act with
        | false =>
          rw [Bool.false_and, if_neg (by simp)] at f2
          go_wp2_with fail
          go_round
          case rel => exact ⟨k + 1, by omega, by go_num⟩
          case measure => simp [intOf]; omega
        | true =>
          rw [Bool.true_and] at f2
          by_cases he : (k : Int) = t
          · have heb : ((k : Int) == t) = true := by simp [he]
            rw [if_pos heb] at f2
            clear he
            go_wp2_with fail
            go_round
            case rel => exact ⟨k + 1, by omega, by go_num⟩
            case measure => simp [intOf]; omega
          · have heb : ((k : Int) == t) = false := by simp [he]
            rw [if_neg (by rw [heb]; simp)] at f2
            clear he
            go_wp2_with fail
            go_round
            case rel => exact ⟨k + 1, by omega, by go_num⟩
            case measure => simp [intOf]; omega
      · clear hALn HI8 HTC
        have HTn : Hid (actOf al rnd t = true → ∃ tn : Nat, t = tn ∧ ∃ h : tn < T.length, T[tn].ops.length ≤ 4096) := by
          show _ → _
          intro ha
          rcases HF.out.tt with rfl | ⟨tn, rfl, hta, hr | ⟨htT, hol⟩⟩
          · simp [actOf] at ha
          · simp [actOf, hta, hr] at ha
          · exact ⟨tn, rfl, htT, hol⟩
        go_wp2_with fail
        go_loopw [115] (fun i wr => ∃ m : Nat, m ≤ keys.length ∧ i = .int .i64 m ∧ PostA w wb hb rnd (.slice va al.length vc) (alOf al rnd t) (aOf T al rnd t (aList keys rs LL)) wr) (fun i _ => keys.length - (intOf i).toNat)
        case atStart => exact ⟨0, Nat.zero_le _, rfl, HPA.out⟩
        case round =>
          rename World => wr
          obtain ⟨m, hm, rfl, hP⟩ := hrel
          have HP := hide hP
          clear hP
          by_cases hml : m < keys.length
          · as_aux_lemma =>
              obtain ⟨b, off, rfl, hbK, hx⟩ := HK.out (by omega)
              have hbw := HS.out b hbK
              have f1 := (HP.out.1.cell (p := ⟨b, off + m, none⟩) hbw).trans (hx m hml)
              have hmr : m < rs.length := by rw [HRL.out]; exact hml
              have hmL : m < LL.length := by rw [HLLn.out]; exact hml
              have hlk := aOf_key T al rnd t keys rs LL HF.out.nd m hml hmr hmL
              rw [← HACT.out] at hlk
              have hLn := HF.out.each m hmL
              have hki : (m : Int) < (keys.length : Int) := by omega
              have hk0 : (0 : Int) ≤ (m : Int) := by omega
              have hkr : (m : Int) < (rs.length : Int) := by omega
              have hkL : (m : Int) < (LL.length : Int) := by omega
              obtain ⟨b2, o2, rfl, hb2, hx2⟩ := HR.out (by omega)
              obtain ⟨b3, o3, rfl, hb3, hx3⟩ := HL.out (by omega)
              obtain ⟨la', lc', hx4, hx5⟩ := hx3 m hmL
              have hx2 := hx2 m hmr
              have F1 := hide (fun (wd : World) (h : Below w.heap.size w wd) => (h.cell (p := ⟨b, off + m, none⟩) hbw).trans (hx m hml))
              have F2 := hide (fun (wd : World) (h : Below w.heap.size w wd) => (h.cell (p := ⟨b2, o2 + m, none⟩) (HS.out b2 hb2)).trans hx2)
              have F3 := hide (fun (wd : World) (h : Below w.heap.size w wd) => (h.cell (p := ⟨b3, o3 + m, none⟩) (HS.out b3 hb3)).trans hx4)
              have F4 := hide (fun (wd : World) (h : Below w.heap.size w wd) => (hx5.kept (fun x hx => h.block x (HS.out x hx))).mono (S' := (· < wd.heap.size)) fun x hx => Nat.lt_of_lt_of_le (HS.out x hx) h.size)
              generalize keys[m] = kk at f1 hlk F1
              generalize rs[m] = rr at hlk F2 hx2
              generalize LL[m] = ll at hlk F3 F4 hx4 hx5 hLn
              clear hx hx2 hx3 hx4 hx5 hmr hmL
              obtain ⟨wbk, hwbk⟩ : ∃ wbk, wbk = (act && writesK (opsT T t) kk) := ⟨_, rfl⟩
              rw [← hwbk] at hlk
              have HWB := hide hwbk
              obtain ⟨r0, hr0⟩ : ∃ r0, r0 = if wbk = true then rnd else rr := ⟨_, rfl⟩
              obtain ⟨tx, htx⟩ : ∃ tx, tx = if wbk = true then addTx rnd t (some (rr, ll)) else ll := ⟨_, rfl⟩
              have hlk2 : lkG (aOf T al rnd t (aList keys rs LL)) kk = some (r0, tx) := by
                rw [hlk, hr0, htx]
                split <;> rfl
              have C35 := hide (HP.out.key kk hlk2)
              have HR0 := hide hr0
              have HTX := hide htx
              clear hwbk hlk hlk2 hr0 htx
              go_upto_region 26 with (go_at_call 35; refine C35.out.mono ?_; rintro e wc ⟨xa, xc', rfl, hIx, hBc⟩)
              rename World => wc
              have HIx := hide hIx
              have HPc := hide (HP.out.grow hBc)
              have f1 := F1.out wc HPc.out.1
              clear hIx hBc C35 HP
              go_upto_region 28 with fail
              go_cut [141] from 130 to 141 (fun v wd => Below wc.heap.size wc wd ∧ v = .bool wbk)
              case first =>
                cases act with
                | false =>
                  have HW0 : Hid (wbk = false) := by show _ = _; rw [HWB.out]; rfl
                  go_quiet (fail)
                  go_wp2_with fail
                  go_meet
                  case rel => exact ⟨below_drewN (Below.refl _ _) _, by rw [HW0.out]⟩
                | true =>
                  obtain ⟨tn, rfl, htT, hol⟩ := HTn.out HACT.out.symm
                  obtain ⟨bt, offt, rfl, hbt, hxt⟩ := HT.out (by omega)
                  obtain ⟨p1, p2, ao, co, p3, p4⟩ := hxt tn htT
                  have hbtw := HS.out bt hbt
                  have q1 := (HPc.out.1.cell (p := ⟨bt, offt + tn * 3, none⟩) hbtw).trans p1
                  have q2 := (HPc.out.1.cell (p := ⟨bt, offt + tn * 3 + 1, none⟩) hbtw).trans p2
                  have q3 := (HPc.out.1.cell (p := ⟨bt, offt + tn * 3 + 2, none⟩) hbtw).trans p3
                  have xc := @Ext.cell wc
                  have xn := Ext.some wc
                  have hbtc : bt < wc.heap.size := Nat.lt_of_lt_of_le hbtw HPc.out.1.size
                  have hbc : b < wc.heap.size := Nat.lt_of_lt_of_le hbw HPc.out.1.size
                  have C36 := hide (fun (p : Ext wc) => writesKey36_ext7 S T[tn].id T[tn].ses ao co T[tn].ops kk (p4.kept (fun x hx => HPc.out.1.block x (HS.out x hx))) (fun x hx => Nat.lt_of_lt_of_le (HS.out x hx) HPc.out.1.size) (by omega) p)
                  have HW1 : Hid (wbk = writesK T[tn].ops kk) := by show _ = _; rw [HWB.out, opsT_nat T tn htT, Bool.true_and]
                  generalize T[tn].id = i1 at q1 C36
                  generalize T[tn].ses = i2 at q2 C36
                  generalize T[tn].ops = ops at q3 C36 HW1 hol
                  have hi1 : (tn : Int) < (T.length : Int) := by omega
                  have hi2 : (0 : Int) ≤ (tn : Int) := by omega
                  clear p1 p2 p3 p4 hxt
                  refine wp_region_ext (by kernel_rfl) (by kernel_rfl) ?_
                  repeat (go_big_quiet_step (exact C36.out _))
                  refine wpQuiet_nil ?_
                  rintro _ ⟨px, rfl⟩
                  go_wp2_with fail
                  go_meet
                  case rel => exact ⟨px.prop, by rw [HW1.out]⟩
              case rest =>
                rename World => wd
                obtain ⟨hBd, rfl⟩ := hcut
                have HPd := hide (HPc.out.grow hBd)
                have HIx2 := hide (ints_grow HIx.out hBd)
                have f2 := F2.out wd HPd.out.1
                have f3 := F3.out wd HPd.out.1
                have hI4 := F4.out wd HPd.out.1
                have HI4 := hide hI4
                clear hBd hI4 HIx HPc f1 F1 F2 F3 F4
                cases wbk with
                | false =>
                  have hr0 : r0 = rr := HR0.out
                  have htx : tx = ll := HTX.out
                  subst hr0 htx
                  have C38 := hide (eq38 xa la' xc' lc' tx wd HIx2.out HI4.out (by omega))
                  go_wp2_with (go_at_call 38; refine C38.out.mono ?_; rintro e wy ⟨rfl, hBy⟩; have HBy := hide hBy; clear hBy)
                  go_roundw
                  case rel => exact ⟨m + 1, by omega, by go_num, HPd.out.grow HBy.out⟩
                  case measure => simp [intOf]; omega
                | true =>
                  have hr0 : r0 = rnd := HR0.out
                  have htx : tx = addTx rnd t (some (rr, ll)) := HTX.out
                  have n0 : (r0 != rnd) = false := by simp [hr0]
                  clear hr0
                  by_cases hrr : rr = rnd
                  · have n1 : (rr != rnd) = false := by simp [hrr]
                    rw [hrr] at htx
                    clear hrr
                    obtain ⟨nl, hnl⟩ : ∃ nl, nl = ll.length := ⟨_, rfl⟩
                    rw [← hnl] at f3 hLn
                    by_cases hlast : ll.getLast? = some t
                    · have htx2 : tx = ll := by rw [htx]; exact addTx_old hlast
                      have C38 := hide (eq38 xa la' xc' lc' ll wd (htx2 ▸ HIx2.out) HI4.out (by omega))
                      rw [← hnl] at C38
                      rw [show tx.length = nl by rw [htx2, hnl]]
                      obtain ⟨ps, q, hps⟩ : ∃ ps q, ll = ps ++ [q] := by
                        rcases ends7 ll with h | h
                        · rw [h] at hlast; cases hlast
                        · exact h
                      have hq : q = t := by rw [hps] at hlast; simpa using hlast
                      have hpl : nl = ps.length + 1 := by rw [hnl, hps]; simp
                      obtain ⟨b4, o4, rfl, hb4, hx4⟩ := HI4.out (by omega)
                      have f4 := hx4 ps.length (by omega)
                      have e4 : ll[ps.length]'(by omega) = t := by
                        subst hps
                        simp [hq]
                      rw [e4] at f4
                      clear hx4 e4 hq hps hlast htx htx2 hnl
                      generalize ps.length = np at *
                      subst hpl
                      have hd : decide ((0 : Int) < (np : Int) + 1) = true := by simp
                      have i1 : (np : Int) < (np : Int) + 1 := by omega
                      have i2 : (0 : Int) ≤ (np : Int) := by omega
                      go_wp2_with (go_at_call 38; refine C38.out.mono ?_; rintro e wy ⟨rfl, hBy⟩; have HBy := hide hBy; clear hBy)
                      go_roundw
                      case rel => exact ⟨m + 1, by omega, by go_num, HPd.out.grow HBy.out⟩
                      case measure => simp [intOf]; omega
                    · have htx2 : tx = ll ++ [t] := by rw [htx]; exact addTx_new hlast
                      have C39 := hide (eq39 xa la' xc' lc' ll t wd (htx2 ▸ HIx2.out) HI4.out (by omega))
                      rw [← hnl] at C39
                      rw [show tx.length = nl + 1 by rw [htx2, hnl]; simp]
                      clear htx
                      rcases ends7 ll with hl0 | ⟨ps, q, hps⟩
                      · obtain rfl : nl = 0 := by rw [hnl, hl0]; rfl
                        clear hnl hl0 htx2 hlast
                        go_wp2_with (go_at_call 39; refine C39.out.mono ?_; rintro e wy ⟨rfl, hBy⟩; have HBy := hide hBy; clear hBy)
                        go_roundw
                        case rel => exact ⟨m + 1, by omega, by go_num, HPd.out.grow HBy.out⟩
                        case measure => simp [intOf]; omega
                      · have hq : q ≠ t := by rw [hps] at hlast; simpa using hlast
                        have hpl : nl = ps.length + 1 := by rw [hnl, hps]; simp
                        obtain ⟨b4, o4, rfl, hb4, hx4⟩ := HI4.out (by omega)
                        have f4 := hx4 ps.length (by omega)
                        have e4 : ll[ps.length]'(by omega) = q := by
                          subst hps
                          simp
                        rw [e4] at f4
                        have hqb : (q == t) = false := by simp [hq]
                        clear hx4 e4 hq hps hlast htx2 hnl
                        generalize ps.length = np at *
                        subst hpl
                        have hd : decide ((0 : Int) < (np : Int) + 1) = true := by simp
                        have i1 : (np : Int) < (np : Int) + 1 := by omega
                        have i2 : (0 : Int) ≤ (np : Int) := by omega
                        go_wp2_with (go_at_call 39; refine C39.out.mono ?_; rintro e wy ⟨rfl, hBy⟩; have HBy := hide hBy; clear hBy)
                        go_roundw
                        case rel => exact ⟨m + 1, by omega, by go_num, HPd.out.grow HBy.out⟩
                        case measure => simp [intOf]; omega
                  · have n1 : (rr != rnd) = true := by simp [hrr]
                    have htx2 : tx = [t] := by rw [htx]; exact addTx_other hrr
                    subst htx2
                    have C37 := hide (eq37 xa xc' t wd HIx2.out)
                    clear hrr htx
                    go_wp2_with (go_at_call 37; refine C37.out.mono ?_; rintro e wy ⟨rfl, hBy⟩; have HBy := hide hBy; clear hBy)
                    go_roundw
                    case rel => exact ⟨m + 1, by omega, by go_num, HPd.out.grow HBy.out⟩
                    case measure => simp [intOf]; omega
          · obtain ⟨fr, hfr⟩ : ∃ fr, fr = if act = true then freshN keys (opsT T t) (opsT T t).length else 0 := ⟨_, rfl⟩
            have HFR := hide hfr
            clear hfr
            go_upto_if 205 with fail
            go_cut [25] from 26 to 282 (fun v wd => v = .int .i64 (fr : Nat) ∧ PostA w wb hb rnd (.slice va al.length vc) (alOf al rnd t) (aOf T al rnd t (aList keys rs LL)) wd)
            case first =>
              cases act with
              | false =>
                go_wp2_with fail
                go_meet
                case rel => exact ⟨by rw [HFR.out]; rfl, HP.out⟩
              | true =>
                as_aux_lemma =>
                  obtain ⟨tn, rfl, htT, hol⟩ := HTn.out HACT.out.symm
                  obtain ⟨bt, offt, rfl, hbt, hxt⟩ := HT.out (by omega)
                  obtain ⟨_, _, ao, co, p3, p4⟩ := hxt tn htT
                  have q3 := (HP.out.1.cell (p := ⟨bt, offt + tn * 3 + 2, none⟩) (HS.out bt hbt)).trans p3
                  have HGo := hide p4
                  have HFR2 : Hid (fr = freshN keys T[tn].ops T[tn].ops.length) := by
                    show _ = _
                    rw [HFR.out, if_pos rfl, opsT_nat T tn htT]
                  have HFre := hide (fun kk (hw : writesK (opsT T (tn : Int)) kk = true) hk => aOf_fresh T al rnd tn keys rs LL kk HACT.out.symm hw hk)
                  rw [opsT_nat T tn htT] at HFre
                  generalize T[tn].ops = ops at q3 HGo HFR2 HFre hol
                  have hi1 : (tn : Int) < (T.length : Int) := by omega
                  have hi2 : (0 : Int) ≤ (tn : Int) := by omega
                  generalize aOf T al rnd (tn : Int) (aList keys rs LL) = A' at *
                  generalize alOf al rnd (tn : Int) = al' at *
                  clear p3 p4 hxt HFR HTn
                  go_wp2_with fail
                  go_loopw [25, 213] (fun v i wi => ∃ a : Nat, a ≤ ops.length ∧ i = .int .i64 a ∧ v = .int .i64 (freshN keys ops a : Nat) ∧ PostA w wb hb rnd (.slice va al.length vc) al' A' wi) (fun _ i _ => ops.length - (intOf i).toNat)
                  case atStart => exact ⟨0, Nat.zero_le _, rfl, rfl, HP.out⟩
                  case round =>
                    rename World => wi
                    obtain ⟨a, ha, rfl, rfl, hPi⟩ := hrel
                    have HPi := hide hPi
                    clear hPi q3 HP
                    have hfle := freshN_le keys ops a
                    by_cases hal2 : a < ops.length
                    · obtain ⟨bo, offo, rfl, hbo, hxo⟩ := HGo.out (by omega)
                      obtain ⟨p1, p2, p3⟩ := hxo a hal2
                      have hbow := HS.out bo hbo
                      have q1 := (HPi.out.1.cell (p := ⟨bo, offo + a * 3, none⟩) hbow).trans p1
                      have q2 := (HPi.out.1.cell (p := ⟨bo, offo + a * 3 + 1, none⟩) hbow).trans p2
                      have q3 := (HPi.out.1.cell (p := ⟨bo, offo + a * 3 + 2, none⟩) hbow).trans p3
                      have HOX := hide hxo
                      have HFA := hide (freshAt_of keys ops a hal2)
                      have HWK := hide (fun hk => writesK_at (ops := ops) (a := a) hal2 hk)
                      have HYes := hide (fun h => freshN_yes (keys := keys) (ops := ops) (a := a) h)
                      have HNo := hide (fun h => freshN_no (keys := keys) (ops := ops) (a := a) h)
                      obtain ⟨o, ho⟩ : ∃ o, o = ops[a] := ⟨_, rfl⟩
                      rw [← ho] at q1 q2 q3 HFA HWK
                      have hai : (a : Int) < (ops.length : Int) := by omega
                      have ha0 : (0 : Int) ≤ (a : Int) := by omega
                      obtain ⟨f1, hf1⟩ : ∃ f1, f1 = freshN keys ops (a + 1) := ⟨_, rfl⟩
                      rw [← hf1] at HYes HNo
                      have HF1 := hide hf1
                      clear hf1
                      generalize freshN keys ops a = f0 at HYes HNo hfle
                      clear p1 p2 p3 hxo ho
                      have C17 := hide (fun w => isWrite_any o.kind o.key o.val w)
                      by_cases hkd : o.kind = 1
                      · have hkb : (o.kind == 1) = true := by simp [hkd]
                        have HK1 := hide (HWK.out hkd)
                        clear hkd HWK
                        go_upto_region 50 with (go_at_call 17; refine (C17.out _).mono ?_; rintro e w' ⟨rfl, rfl⟩)
                        have HPj := hide (HPi.out.grow ((Below.refl _ _).alloc (Nat.le_refl _) (.cells #[.int .u8 o.kind, .int .i64 o.key, .int .i64 o.val] 40)))
                        have q2' := cal q2 (.cells #[.int .u8 o.kind, .int .i64 o.key, .int .i64 o.val] 40)
                        obtain ⟨wj, hwj⟩ : ∃ wj, wj = wi.alloc (.cells #[.int .u8 o.kind, .int .i64 o.key, .int .i64 o.val] 40) := ⟨_, rfl⟩
                        rw [← hwj] at HPj q2'
                        rw [← hwj]
                        clear hwj q1 q2 q3 HPi C17
                        go_upto_block 6 with fail
                        go_cut [29, 30] from 227 to 245 (fun v29 v30 wd => v29 = .bool (writesK (ops.take a) o.key) ∧ Below wj.heap.size wj wd)
                        case first =>
                          go_wp2_with fail
                          clear q2'
                          go_loopw [29, 30] (fun v29 v30 wd => ∃ j : Nat, j ≤ a ∧ v29 = .bool false ∧ v30 = .int .i64 j ∧ (∀ b (hb : b < ops.length), b < j → ¬ (ops[b].kind = 1 ∧ ops[b].key = o.key)) ∧ Below wj.heap.size wj wd) (fun _ i _ => a - (intOf i).toNat)
                          case atStart => exact ⟨0, Nat.zero_le _, rfl, rfl, fun b _ h => by omega, Below.refl _ _⟩
                          case round =>
                            rename World => wd
                            obtain ⟨j, hj, rfl, rfl, hno, hBd⟩ := hrel
                            have HNO := hide hno
                            have HBd := hide hBd
                            have HPd := hide (HPj.out.grow hBd)
                            have hszd := hBd.size
                            clear hno hBd
                            by_cases hja : j < a
                            · have hjo : j < ops.length := by omega
                              obtain ⟨p1, p2, p3⟩ := HOX.out j hjo
                              have q1 := (HPd.out.1.cell (p := ⟨bo, offo + j * 3, none⟩) hbow).trans p1
                              have q2 := (HPd.out.1.cell (p := ⟨bo, offo + j * 3 + 1, none⟩) hbow).trans p2
                              have q3 := (HPd.out.1.cell (p := ⟨bo, offo + j * 3 + 2, none⟩) hbow).trans p3
                              have HT1 := hide (fun h1 h2 => writesK_take_true (ops := ops) (a := a) (b := j) (k := o.key) hjo hja h1 h2)
                              have HN1 := hide (fun (hne : ¬ (ops[j].kind = 1 ∧ ops[j].key = o.key)) b (hb : b < ops.length) (hbj : b < j + 1) => show ¬ (ops[b].kind = 1 ∧ ops[b].key = o.key) by
                                by_cases e : b = j
                                · subst e; exact hne
                                · exact HNO.out b hb (by omega))
                              generalize ops[j] = o2 at q1 q2 q3 HT1 HN1
                              have hji : (j : Int) < (ops.length : Int) := by omega
                              have hj0 : (0 : Int) ≤ (j : Int) := by omega
                              have hja2 : (j : Int) < (a : Int) := by omega
                              have hbod : bo < wd.heap.size := Nat.lt_of_lt_of_le hbow HPd.out.1.size
                              have q2' := cal q2 (.cells #[.int .u8 o2.kind, .int .i64 o2.key, .int .i64 o2.val] 40)
                              clear p1 p2 p3 HNO
                              have D17 := hide (fun w => isWrite_any o2.kind o2.key o2.val w)
                              by_cases hk2 : o2.kind = 1
                              · have hkb2 : (o2.kind == 1) = true := by simp [hk2]
                                by_cases he : o2.key = o.key
                                · have heb : (o2.key == o.key) = true := by simp [he]
                                  have HM := hide (HT1.out hk2 he)
                                  clear hk2 he HN1
                                  go_wp2_with (go_at_call 17; refine (D17.out _).mono ?_; rintro e w' ⟨rfl, rfl⟩)
                                  go_meet
                                  case rel => exact ⟨by rw [HM.out], HBd.out.alloc hszd _⟩
                                · have heb : (o2.key == o.key) = false := by simp [he]
                                  have HN2 := hide (HN1.out (fun h => he h.2))
                                  clear hk2 he HN1
                                  go_wp2_with (go_at_call 17; refine (D17.out _).mono ?_; rintro e w' ⟨rfl, rfl⟩)
                                  go_roundw
                                  case rel => exact ⟨j + 1, by omega, rfl, by go_num, HN2.out, HBd.out.alloc hszd _⟩
                                  case measure => simp [intOf]; omega
                              · have hkb2 : (o2.kind == 1) = false := by simp [hk2]
                                have HN2 := hide (HN1.out (fun h => hk2 h.1))
                                clear hk2 HN1
                                go_wp2_with (go_at_call 17; refine (D17.out _).mono ?_; rintro e w' ⟨rfl, rfl⟩)
                                go_roundw
                                case rel => exact ⟨j + 1, by omega, rfl, by go_num, HN2.out, HBd.out.alloc hszd _⟩
                                case measure => simp [intOf]; omega
                            · have HM : Hid (writesK (ops.take a) o.key = false) := by
                                show _ = _
                                exact writesK_take_false (fun b hb hba => HNO.out b hb (by omega))
                              go_wp2_with fail
                              go_meet
                              case rel => exact ⟨by rw [HM.out], HBd.out⟩
                        case rest =>
                          rename World => wk
                          obtain ⟨rfl, hBk⟩ := hcut
                          have HPk := hide (HPj.out.grow hBk)
                          clear hBk q2'
                          obtain ⟨dp, hdp⟩ : ∃ dp, dp = writesK (ops.take a) o.key := ⟨_, rfl⟩
                          rw [← hdp] at HFA
                          rw [← hdp]
                          clear hdp
                          obtain ⟨ik, hik⟩ : ∃ ik, ik = decide (o.key ∈ keys) := ⟨_, rfl⟩
                          rw [← hik] at HFA
                          have HIK := hide hik
                          clear hik
                          cases dp with
                          | true =>
                            have hf : f1 = f0 := HNo.out (by rw [HFA.out]; simp)
                            subst hf
                            go_wp2_with fail
                            go_roundw
                            case rel => exact ⟨a + 1, by omega, by go_num, by rw [← HF1.out], HPk.out⟩
                            case measure => simp [intOf]; omega
                          | false =>
                            go_upto_block 8 with fail
                            go_cut [31, 32] from 247 to 258 (fun v31 v32 wd => wd = wk ∧ v31 = .bool ik)
                            case first =>
                              go_wp2_with fail
                              go_loop [31, 249] (fun v31 i => ∃ j : Nat, j ≤ keys.length ∧ v31 = .bool false ∧ i = .int .i64 j ∧ ∀ b (hb : b < keys.length), b < j → keys[b] ≠ o.key) (fun _ i => keys.length - (intOf i).toNat)
                              case atStart => exact ⟨0, Nat.zero_le _, rfl, rfl, fun b _ h => by omega⟩
                              case round =>
                                obtain ⟨j, hj, rfl, rfl, hno⟩ := hrel
                                have HNO := hide hno
                                clear hno
                                by_cases hjk : j < keys.length
                                · obtain ⟨b1, o1, rfl, hb1, hx1⟩ := HK.out (by omega)
                                  have g1 := (HPk.out.1.cell (p := ⟨b1, o1 + j, none⟩) (HS.out b1 hb1)).trans (hx1 j hjk)
                                  have HMe := hide (List.getElem_mem hjk)
                                  have HN1 := hide (fun (hne : keys[j] ≠ o.key) b (hb : b < keys.length) (hbj : b < j + 1) => show keys[b] ≠ o.key by
                                    by_cases e : b = j
                                    · subst e; exact hne
                                    · exact HNO.out b hb (by omega))
                                  generalize keys[j] = x at g1 HMe HN1
                                  have hji : (j : Int) < (keys.length : Int) := by omega
                                  have hj0 : (0 : Int) ≤ (j : Int) := by omega
                                  clear hx1 HNO
                                  by_cases he : x = o.key
                                  · have heb : (x == o.key) = true := by simp [he]
                                    have HM : Hid (ik = true) := by
                                      show _ = _
                                      rw [HIK.out, ← he]; simp [HMe.out]
                                    clear he
                                    go_wp2_with fail
                                    go_meet
                                    case rel => exact ⟨rfl, by rw [HM.out]⟩
                                  · have heb : (x == o.key) = false := by simp [he]
                                    have HN2 := hide (HN1.out he)
                                    clear he
                                    go_wp2_with fail
                                    go_round
                                    case rel => exact ⟨j + 1, by omega, rfl, by go_num, HN2.out⟩
                                    case measure => simp [intOf]; omega
                                · have HM : Hid (ik = false) := by
                                    show _ = _
                                    rw [HIK.out, decide_eq_false_iff_not]
                                    intro hm
                                    obtain ⟨q, hq, he⟩ := List.getElem_of_mem hm
                                    exact HNO.out q hq (by omega) he
                                  go_wp2_with fail
                                  go_meet
                                  case rel => exact ⟨rfl, by rw [HM.out]⟩
                            case rest =>
                              obtain ⟨hwc, rfl⟩ := hcut
                              obtain rfl : wk = wc := hwc.symm
                              cases ik with
                              | true =>
                                have hf : f1 = f0 := HNo.out (by rw [HFA.out]; simp)
                                subst hf
                                go_wp2_with fail
                                go_roundw
                                case rel => exact ⟨a + 1, by omega, by go_num, by rw [← HF1.out], HPk.out⟩
                                case measure => simp [intOf]; omega
                              | false =>
                                have hf : f1 = f0 + 1 := HYes.out (by rw [HFA.out, hkb]; rfl)
                                have hnk : o.key ∉ keys := by
                                  have := HIK.out.symm
                                  rwa [decide_eq_false_iff_not] at this
                                have C35 := hide (HPk.out.key o.key (HFre.out o.key HK1.out hnk))
                                have HFf := hide hf
                                have n0 : (rnd != rnd) = false := by simp
                                clear hf hnk
                                go_wp2_with (first | (go_at_call 35; refine C35.out.mono ?_; rintro e wx ⟨xa, xc', rfl, hIx, hBx⟩; have C37 := hide (eq37 xa xc' (tn : Int) wx hIx); have HBx := hide hBx; clear hIx hBx) | (go_at_call 37; refine C37.out.mono ?_; rintro e wy ⟨rfl, hBy⟩; have HBy := hide hBy; clear hBy))
                                go_roundw
                                case rel => exact ⟨a + 1, by omega, by go_num, by rw [← HF1.out, HFf.out]; go_num, (HPk.out.grow HBx.out).grow HBy.out⟩
                                case measure => simp [intOf]; omega
                      · have hkb : (o.kind == 1) = false := by simp [hkd]
                        have hf : f1 = f0 := HNo.out (by rw [HFA.out, hkb]; rfl)
                        subst hf
                        clear hkd
                        go_wp2_with (go_at_call 17; refine (C17.out _).mono ?_; rintro e w' ⟨rfl, rfl⟩)
                        go_roundw
                        case rel => exact ⟨a + 1, by omega, by go_num, by rw [← HF1.out], HPi.out.grow ((Below.refl _ _).alloc (Nat.le_refl _) _)⟩
                        case measure => simp [intOf]; omega
                    · go_wp2_with fail
                      go_meet
                      case rel =>
                        obtain rfl : a = ops.length := by omega
                        exact ⟨by rw [HFR2.out], HPi.out⟩
            case rest =>
              rename World => wd
              obtain ⟨rfl, hPd⟩ := hcut
              have C40 := hide hPd.len
              have hlen := aOf_len T al rnd t keys rs LL
              rw [← HACT.out, ← HFR.out] at hlen
              have HBd := hide hPd.1
              have hfr4 : fr ≤ 4096 := by
                rw [HFR.out]
                split
                · rename_i h
                  obtain ⟨tn, rfl, htT, hol⟩ := HTn.out (by rw [← HACT.out]; exact h)
                  rw [opsT_nat T tn htT]
                  exact Nat.le_trans (freshN_le _ _ _) hol
                · exact Nat.zero_le _
              have hle : ((((aOf T al rnd t (aList keys rs LL)).length : Nat) : Int) == (keys.length : Int) + (fr : Int)) = true := by rw [hlen]; simp
              generalize (aOf T al rnd t (aList keys rs LL)).length = n9 at C40 hle
              clear hPd hlen HP
              go_wp2_with (go_at_call 40; refine C40.out.mono ?_; rintro e w' ⟨rfl, hw⟩; obtain rfl : wd = w' := hw.symm)
              go_ret
              refine ⟨?_, HBd.out⟩
              first | rfl | exact congrArg (fun b => Ending.returned (Value.bool b)) hle
end Go.Proofs.Qxb6602646a
