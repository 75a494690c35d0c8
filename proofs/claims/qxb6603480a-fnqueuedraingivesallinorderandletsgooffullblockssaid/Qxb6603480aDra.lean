/-
  FnQueueDrainGivesAllInOrderAndLetsGoOfFullBlocks, walked.
-/
import Derived.Test.Qxb6603480aPop
namespace Go.Proofs.Qxb6603480a
open Go.RowKit

/-- j blocks are let go of. -/
structure DrI (B : List (List (Int × Int))) (j : Nat) (Bk : List (List (Int × Int))) (sp : Nat) : Prop where
  le : j ≤ B.length
  is : Bk = B.drop j
  spare : sp = if j = 0 then 0 else 4096
  full : ∀ i (h : i < B.length), i < j → B[i].length = 4096
def Dr (B0 : Nat) (w0 : World) (qb : Nat) (B : List (List (Int × Int))) (h k : Nat) (wr : World) : Prop :=
  ∃ j Bk hk sp, QEx B0 w0 wr qb Bk ((hk : Nat) : Int) sp ∧ ShB Bk hk ∧ flatB Bk hk = (flatB B h).drop k ∧ DrI B j Bk sp
theorem DrI.next {B : List (List (Int × Int))} {j : Nat} {Bk : List (List (Int × Int))} {sp hk : Nat} (h : DrI B j Bk sp) {b : List (Int × Int)} {R : List (List (Int × Int))} (hB : Bk = b :: R) (hf : hk + 1 = 4096 → b.length = 4096) : ∃ j', DrI B j' (nextB Bk hk) (nextS hk sp) := by
  have hj : j < B.length := by
    have := congrArg List.length (h.is.symm.trans hB)
    rw [List.length_drop] at this
    simp at this
    omega
  have hd : B.drop j = B[j] :: B.drop (j + 1) := List.drop_eq_getElem_cons hj
  have hbj : b = B[j] := by
    have := h.is.symm.trans hB
    rw [hd] at this
    exact (List.cons.inj this).1.symm
  unfold nextB nextS
  by_cases q : hk + 1 = 4096
  · rw [if_pos q, if_pos q]
    refine ⟨j + 1, hj, ?_, by rw [if_neg (by omega)], fun i hi hij => ?_⟩
    · rw [h.is, hd]; rfl
    · by_cases e : i = j
      · subst e; rw [← hbj]; exact hf q
      · exact h.full i hi (by omega)
  · rw [if_neg q, if_neg q]
    exact ⟨j, h.le, h.is, h.spare, h.full⟩
/-- How a drained queue stands. -/
theorem dr_end {B : List (List (Int × Int))} {j hk sp : Nat} {Bk : List (List (Int × Int))} (hS : ShB Bk hk) (hf : flatB Bk hk = []) (h : DrI B j Bk sp) :
    (B.length = 0 ∧ Bk = [] ∧ hk = 0 ∧ sp = 0) ∨ (∃ hp : 0 < B.length, B[B.length - 1].length = 4096 ∧ Bk = [] ∧ hk = 0 ∧ sp = 4096) ∨
    ∃ hp : 0 < B.length, B[B.length - 1].length < 4096 ∧ Bk = [B[B.length - 1]] ∧ hk = B[B.length - 1].length ∧ sp = if B.length = 1 then 0 else 4096 := by
  have hlen : Bk.length = B.length - j := by rw [h.is, List.length_drop]
  have hle := h.le
  rcases flat_nil hf hS with q | ⟨q1, q2⟩
  · have hBk : Bk = [] := List.eq_nil_of_length_eq_zero q
    have hk0 : hk = 0 := by
      rcases hS.head with ⟨_, e⟩ | ⟨e, _⟩
      · exact e
      · omega
    have hj : j = B.length := by omega
    by_cases hn : B.length = 0
    · exact .inl ⟨hn, hBk, hk0, by rw [h.spare, if_pos (by omega)]⟩
    · exact .inr (.inl ⟨by omega, h.full _ _ (by omega), hBk, hk0, by rw [h.spare, if_neg (by omega)]⟩)
  · have hk4 : hk < 4096 := by
      rcases hS.head with ⟨e, _⟩ | ⟨_, _, e⟩
      · omega
      · exact e
    have h1 : Bk.length = 1 := by
      by_cases e : 0 + 1 < Bk.length
      · have := (hS.each 0 q1).2.2 e
        omega
      · omega
    have hj : j = B.length - 1 := by omega
    have hp : 0 < B.length := by omega
    have hd : B.drop (B.length - 1) = [B[B.length - 1]] := by
      rw [List.drop_eq_getElem_cons (by omega), List.drop_eq_nil_iff.2 (by omega)]
    have hBk : Bk = [B[B.length - 1]] := by
      rw [← hd, ← hj]
      exact h.is
    have e0 : Bk[0]'q1 = B[B.length - 1] := by simp only [hBk, List.getElem_cons_zero]
    rw [e0] at q2
    refine .inr (.inr ⟨hp, by omega, hBk, q2, ?_⟩)
    rw [h.spare]
    by_cases e : B.length = 1
    · rw [if_pos (by omega), if_pos e]
    · rw [if_neg (by omega), if_neg e]

set_option maxHeartbeats 4000000 in
set_option maxRecDepth 20000 in
theorem mainDra (a b : Option Addr) (c d : Nat) (hd : Int) (S : Nat → Prop) (O C : List (List Int)) (w : World) (hO : RowsAt .u32 S w a O) (hC : RowsAt .u32 S w b C) (hS : ∀ b, S b → b < w.heap.size) (hn : O.length ≤ maxLen) (hn2 : C.length ≤ maxLen) (hnil : a = none → O.length = 0) (hnil2 : b = none → C.length = 0) :
    Calls Try.prog 4 #[.slice a O.length c, .slice b C.length d, .int .i64 hd] w (okPost w) := by
  have HO := hide hO
  have HC := hide hC
  have HS := hide hS
  have HI := hide hnil
  have HI2 := hide hnil2
  have C5 := hide (bytes14 a b c d hd S O C w hO hC hn hn2)
  clear hO hC hS hnil hnil2 hn hn2
  go_enter Try.func4, Try.ntmps4
  go_wp2_with fail
  refine C5.out.mono ?_
  rintro e w' ⟨⟨r, rfl⟩, hw⟩
  obtain rfl : w = w' := hw.symm
  cases r
  · go_wp2_with fail
    go_ret
    exact ⟨rfl, Below.refl _ _⟩
  by_cases g1 : (4096 : Int) < O.length
  · go_wp2_with fail
    go_ret
    exact ⟨rfl, Below.refl _ _⟩
  have d1 : decide ((4096 : Int) < O.length) = false := by simpa using g1
  by_cases g2 : (4096 : Int) < C.length
  · go_wp2_with fail
    go_ret
    exact ⟨rfl, Below.refl _ _⟩
  have d2 : decide ((4096 : Int) < C.length) = false := by simpa using g2
  have hn4 : O.length ≤ 4096 := by omega
  have hm4 : C.length ≤ 4096 := by omega
  go_wp2_with fail
  refine (qbytes6 a b c d S O C w HO.out HC.out hn4 hm4).mono ?_
  rintro e w' ⟨⟨r, rfl⟩, hw⟩
  obtain rfl : w = w' := hw.symm
  clear d1 d2 g1 g2
  by_cases g3 : (1048576 : Int) < r
  · go_wp2_with fail
    go_ret
    exact ⟨rfl, Below.refl _ _⟩
  go_wp2_with fail
  refine (shape7 a b c d hd S O C w HO.out HC.out hn4).mono ?_
  rintro e w' ⟨⟨r, rfl, hr⟩, hw⟩
  obtain rfl : w = w' := hw.symm
  cases r
  · clear hr
    go_wp2_with fail
    go_ret
    exact ⟨rfl, Below.refl _ _⟩
  have hs : ShapeP O C hd := hr.1 rfl
  have eB1 := pairs_fst hs
  have eB2 := pairs_snd hs
  obtain ⟨B, hB⟩ : ∃ B, B = pairs O C := ⟨_, rfl⟩
  rw [← hB] at eB1 eB2
  have hsB := hs
  rw [← eB1, ← eB2] at hsB
  obtain ⟨h, rfl, hSh⟩ := shB_of hsB
  have hlen := hs.len
  have HSh := hide hSh
  have Hs := hide hs
  have HLn := hide hlen
  have HE1 := hide eB1
  have HE2 := hide eB2
  have HB := hide hB
  have hBl : B.length ≤ 4096 := by rw [hB, pairs_len]; exact hn4
  have HBl := hide hBl
  clear hr g3 hs eB1 eB2 hB hsB hSh hlen hBl
  have HrO : Hid (∀ i (h : i < O.length), 1 ≤ O[i].length ∧ O[i].length ≤ 4096) := fun i hi => by
    have := Hs.out.each i hi (by rw [HLn.out]; exact hi)
    exact ⟨this.2.1, this.2.2.1⟩
  have HrC : Hid (∀ i (h : i < C.length), 1 ≤ C[i].length ∧ C[i].length ≤ 4096) := fun i hi => by
    have := Hs.out.each i (by rw [← HLn.out]; exact hi) hi
    rw [this.1]
    exact ⟨this.2.1, this.2.2.1⟩
  go_wp2_with fail
  refine (copy8 a c S O w HO.out HS.out HI.out hn4 HrO.out).mono ?_
  rintro e w1 ⟨a1, c1, rfl, hR1, hB1⟩
  have hsz1 := hB1.size
  have HR1 := hide (hR1.mono (S' := (· < w1.heap.size)) fun _ hb => hb.2)
  have HB1 := hide hB1
  clear hR1 hB1
  go_wp2_with fail
  refine (copy8 b d S C w1 (HC.out.kept (fun x hx => HB1.out.block x (HS.out x hx))) (fun x hx => Nat.lt_of_lt_of_le (HS.out x hx) hsz1) HI2.out hm4 HrC.out).mono ?_
  rintro e w2 ⟨a2, c2, rfl, hR2, hB2⟩
  have HR2 := hide (hR2.mono (S' := (· < w2.heap.size)) fun _ hb => hb.2)
  have HR1b := hide (HR1.out.grow hB2)
  have HB2 := hide (HB1.out.trans (hB2.mono hsz1))
  have hsz2 := HB2.out.size
  clear hR2 hB2 HR1 HB1 hsz1
  go_wp2_with fail
  refine (flat9 a1 a2 c1 c2 h (· < w2.heap.size) O C w2 HR1b.out HR2.out (fun _ h => h) Hs.out hn4).mono ?_
  rintro e w3 ⟨v1, v2, rfl, hT⟩
  have HTw := hide hT
  have HB3 := hide (HB2.out.trans (hT.1.2.mono hsz2))
  have hsz3 := HB3.out.size
  have HO3 := hide (HR1b.out.grow hT.1.2)
  have HC3 := hide (HR2.out.grow hT.1.2)
  obtain ⟨fa, fc, hv1⟩ := hT.1.val
  obtain ⟨ga, gc, hv2⟩ := hT.2.1.val
  subst hv1 hv2
  have ef : (flat O h).length = (flatB B h).length := by rw [← HE1.out, flat_fst, List.length_map]
  have eg : (flat C h).length = (flatB B h).length := by rw [← HE2.out, flat_snd, List.length_map]
  rw [ef, eg]
  obtain ⟨lf, hlf⟩ : ∃ lf, lf = (flatB B h).length := ⟨_, rfl⟩
  rw [← hlf]
  have HLf := hide hlf
  clear hT HB2 HR1b HR2 hsz2 ef eg hlf
  go_wp2_with fail
  refine (new10 a1 a2 c1 c2 h (· < w3.heap.size) O C w3 HO3.out HC3.out (fun _ h => h) Hs.out.each HLn.out hn4).mono ?_
  rintro e w4 ⟨rfl, hQ4⟩
  rw [← HB.out] at hQ4
  have HQ4 := hide hQ4
  clear hQ4
  obtain ⟨qb, hqb⟩ : ∃ qb, qb = w3.heap.size := ⟨_, rfl⟩
  rw [← hqb]
  have HQB := hide hqb
  clear hqb
  go_wp2_with fail
  have HB0 : Hid (Dr w3.heap.size w3 qb B h 0 w4) := ⟨0, B, h, 0, by rw [HQB.out]; exact HQ4.out, HSh.out, rfl, Nat.zero_le _, rfl, rfl, fun i _ q => by omega⟩
  clear HQ4
  have hlfb2 : lf ≤ 16781312 := by rw [HLf.out]; exact flatB_len B h HSh.out HBl.out
  go_loopw [10] (fun v wr => ∃ k : Nat, k ≤ lf ∧ v = .int .i64 k ∧ Dr w3.heap.size w3 qb B h k wr) (fun v _ => lf + 1 - (intOf v).toNat)
  case atStart => exact ⟨0, Nat.zero_le _, rfl, HB0.out⟩
  case round =>
    rename World => wr
    obtain ⟨k, hk, rfl, j, Bk, hk2, sp, hQ, hS2, hfl, hD⟩ := hrel
    have hkl : (k : Int) ≤ (lf : Int) := by omega
    have hBkl : Bk.length ≤ 4096 := by
      have := HBl.out
      rw [hD.is, List.length_drop]
      omega
    by_cases hlt : k < lf
    · have hkF : k < (flatB B h).length := by rw [← HLf.out]; exact hlt
      have hne : flatB Bk hk2 ≠ [] := by
        rw [hfl]
        intro e
        have := List.drop_eq_nil_iff.1 e
        omega
      obtain ⟨b0, R, hBc, hh, h4, hb4, hfl2, hSn, hlast⟩ := flat_some hne hS2
      have hx : b0[hk2] = (flatB B h)[k] ∧ flatB (nextB Bk hk2) (nextH hk2) = (flatB B h).drop (k + 1) := by
        rw [hfl, List.drop_eq_getElem_cons hkF] at hfl2
        have := List.cons.inj hfl2
        exact ⟨this.1.symm, this.2.symm⟩
      have hq4 := hQ
      rw [hBc] at hq4
      have hpop := pop11_some hq4 hh h4 hb4 (by rw [hBc] at hBkl; simp at hBkl; omega)
      rw [← hBc, hx.1] at hpop
      obtain ⟨j', hD'⟩ := hD.next hBc hlast
      have HNx : Hid (∀ w', QEx w3.heap.size w3 w' qb (nextB Bk hk2) (nextH hk2) (nextS hk2 sp) → Dr w3.heap.size w3 qb B h (k + 1) w') := fun w' q => ⟨j', _, _, _, q, hSn, hx.2, hD'⟩
      have HB3r : Hid (Below w3.heap.size w3 wr) := by
        obtain ⟨_, _, _, _, q⟩ := hQ
        exact q.bel
      obtain ⟨gf, cf, ev1, _, hgf, hcl1⟩ := HTw.out.1.open (by rw [← HE1.out, flat_fst, List.length_map]; omega)
      obtain ⟨gg, cg, ev2, _, hgg, hcl2⟩ := HTw.out.2.1.open (by rw [← HE2.out, flat_snd, List.length_map]; omega)
      obtain ⟨rfl, rfl⟩ : fa = some ⟨gf, 0, none⟩ ∧ fc = cf := by cases ev1; exact ⟨rfl, rfl⟩
      obtain ⟨rfl, rfl⟩ : ga = some ⟨gg, 0, none⟩ ∧ gc = cg := by cases ev2; exact ⟨rfl, rfl⟩
      have f0 : w3.cell? ⟨gf, k, none⟩ = some (.int .u32 ((flatB B h)[k]).1) := by
        have := hcl1 k (by rw [← HE1.out, flat_fst, List.length_map]; exact hkF)
        rw [this]
        congr 2
        have e : flat O h = (flatB B h).map fun p => p.1 := by rw [← HE1.out, flat_fst]
        simp only [e, List.getElem_map]
      have f1 : w3.cell? ⟨gg, k, none⟩ = some (.int .u32 ((flatB B h)[k]).2) := by
        have := hcl2 k (by rw [← HE2.out, flat_snd, List.length_map]; exact hkF)
        rw [this]
        congr 2
        have e : flat C h = (flatB B h).map fun p => p.2 := by rw [← HE2.out, flat_snd]
        simp only [e, List.getElem_map]
      generalize (flatB B h)[k] = x at hpop f0 f1
      have C11 := hide hpop
      have F0 := hide f0
      have F1 := hide f1
      have hke : ((k : Int) == (lf : Int)) = false := by rw [beq_eq_false_iff_ne]; omega
      have hki : (k : Int) < (lf : Int) := by omega
      have hk0 : (0 : Int) ≤ (k : Int) := by omega
      clear hQ hS2 hfl hD hne hBc hh h4 hb4 hfl2 hSn hlast hx hq4 hpop hD' ev1 ev2 hcl1 hcl2 f0 f1 hkF
      go_upto_region 16 with (go_at_call 11; refine C11.out.mono ?_; rintro e wq ⟨rfl, hQq⟩)
      rename World => wq
      have hBq : Below w3.heap.size w3 wq := by
        obtain ⟨_, _, _, _, q⟩ := hQq
        exact q.bel
      have y0 := (hBq.cell (p := ⟨gf, k, none⟩) hgf).trans F0.out
      have y1 := (hBq.cell (p := ⟨gg, k, none⟩) hgg).trans F1.out
      have HDn := hide (HNx.out wq hQq)
      clear hBq hQq C11 HNx
      go_wp2_with fail
      go_roundw
      case rel => exact ⟨k + 1, by omega, by go_num, HDn.out⟩
      case measure => simp [intOf]; omega
    · obtain rfl : k = lf := by omega
      have hnil3 : flatB Bk hk2 = [] := by rw [hfl]; exact List.drop_eq_nil_iff.2 (by rw [← HLf.out]; exact Nat.le_refl _)
      have hpop := pop11_none hQ (by
        rcases flat_nil hnil3 hS2 with q | ⟨q1, q2⟩
        · exact .inl q
        · exact .inr ⟨q1, by rw [← q2]⟩)
      have HEnd := hide (dr_end hS2 hnil3 hD)
      have HS2 := hide hS2
      have C11 := hide hpop
      have HBkl := hide hBkl
      clear hQ hS2 hfl hD hpop hnil3 hBkl
      go_upto_region 16 with (go_at_call 11; refine C11.out.mono ?_; rintro e wq ⟨rfl, hQq⟩)
      rename World => wq
      have C12 := hide (state12 hQq HBkl.out (fun i hi => (HS2.out.each i hi).2.1))
      have HBq : Hid (Below w3.heap.size w3 wq) := by
        obtain ⟨_, _, _, _, q⟩ := hQq
        exact q.bel
      clear hQq C11 HB0
      go_upto_region 23 with (go_at_call 12; refine C12.out.mono ?_; rintro e w6 ⟨b1, e1, b2, e2, rfl, hX1, hX2, hB6⟩)
      rename World => w6
      have HX1 := hide hX1
      have HX2 := hide hX2
      have HB36 := hide (HBq.out.trans (hB6.mono HBq.out.size))
      have HO6 := hide (HO3.out.grow HB36.out)
      have HC6 := hide (HC3.out.grow HB36.out)
      have HFin := hide (fun w9 (hb : Below w6.heap.size w6 w9) => HB3.out.trans ((HB36.out.trans (hb.mono HB36.out.size)).mono hsz3))
      clear hX1 hX2 hB6 C12 HBq
      have hOL : ∀ (hp : 0 < B.length), ∃ h0 : O.length - 1 < O.length, O[O.length - 1].length = B[B.length - 1].length ∧ O[O.length - 1] = (B[B.length - 1].map fun p => p.1) := fun hp => by
        have e : O = fstC B := HE1.out.symm
        subst e
        refine ⟨by rw [fstC_len]; omega, ?_⟩
        rw [fstC_at, List.length_map]
        simp only [fstC_len]
        exact ⟨trivial, trivial⟩
      have hCL : ∀ (hp : 0 < B.length), ∃ h0 : C.length - 1 < C.length, C[C.length - 1] = (B[B.length - 1].map fun p => p.2) := fun hp => by
        have e : C = sndC B := HE2.out.symm
        subst e
        refine ⟨by rw [sndC_len]; omega, ?_⟩
        rw [sndC_at]
        simp only [sndC_len]
      have HOL := hide hOL
      have HCL := hide hCL
      have HOB : Hid (O.length = B.length) := by show _ = _; rw [← HE1.out, fstC_len]
      clear hOL hCL
      obtain ⟨n, hnn⟩ : ∃ n, n = O.length := ⟨_, rfl⟩
      have hCn : C.length = n := by rw [HLn.out, hnn]
      rw [← hnn, hCn]
      rw [← hnn] at HOB
      have HNn := hide hnn
      have HCn := hide hCn
      have hn4' : n ≤ 4096 := by rw [hnn]; exact hn4
      clear hnn hCn hn4 hm4
      rcases HEnd.out with ⟨z1, z2, z3, z4⟩ | ⟨z0, z1, z2, z3, z4⟩ | ⟨z0, z1, z2, z3, z4⟩
      · subst z2 z3 z4
        obtain rfl : n = 0 := by rw [HOB.out, z1]
        have el1 : (fstC []).length = 0 := rfl
        have el2 : (sndC []).length = 0 := rfl
        rw [el1, el2]
        clear z1
        go_wp2_with fail
        go_ret
        exact ⟨rfl, HFin.out _ (Below.refl _ _)⟩
      · obtain ⟨h0, hO0, _⟩ := HOL.out z0
        have hnB : 0 < n := by rw [HOB.out]; exact z0
        obtain ⟨p3, o3, rfl, hp3, y3⟩ := HO6.out (by rw [← HNn.out]; exact hnB)
        obtain ⟨A3, D3, u3, _⟩ := y3 (O.length - 1) h0
        rw [hO0, z1, ← HNn.out] at u3
        subst z2 z3 z4
        have el1 : (fstC []).length = 0 := rfl
        have el2 : (sndC []).length = 0 := rfl
        rw [el1, el2]
        have hn0 : ((n : Int) == 0) = false := by rw [beq_eq_false_iff_ne]; omega
        have inp : (0 : Int) < (n : Int) := by omega
        have hwn : IntKind.i64.wrap ((n : Int) - 1) = (n : Int) - 1 := by rw [IntKind.wrap_i64]; omega
        have htn : ((n : Int) - 1).toNat = n - 1 := by omega
        have hb1 : (n : Int) - 1 < (n : Int) := by omega
        have hb2 : (1 : Int) ≤ (n : Int) := by omega
        have hb3 : 1 ≤ n := by omega
        have hb4 : n ≠ 0 := by omega
        clear hO0 z1 y3
        go_wp2_with fail
        go_ret
        exact ⟨by simp, HFin.out _ (Below.refl _ _)⟩
      · obtain ⟨h0, hO0, hO1⟩ := HOL.out z0
        obtain ⟨h0c, hC1⟩ := HCL.out z0
        have hnB : 0 < n := by rw [HOB.out]; exact z0
        obtain ⟨p3, o3, rfl, hp3, y3⟩ := HO6.out (by rw [← HNn.out]; exact hnB)
        obtain ⟨A3, D3, u3, i3⟩ := y3 (O.length - 1) h0
        obtain ⟨p4, o4, rfl, hp4, y4⟩ := HC6.out (by rw [HCn.out]; exact hnB)
        obtain ⟨A4, D4, u4, i4⟩ := y4 (C.length - 1) h0c
        rw [hO1, List.length_map] at u3
        rw [hO1] at i3
        rw [hC1, List.length_map] at u4
        rw [hC1] at i4
        rw [← HNn.out] at u3
        rw [HCn.out] at u4
        subst z2 z3 z4
        generalize B[B.length - 1] = lst at *
        obtain ⟨p1, o1, rfl, hp1, y1⟩ := HX1.out (by simp [fstC])
        obtain ⟨A1, D1, u1, i1⟩ := y1 0 (by simp [fstC])
        obtain ⟨p2, o2, rfl, hp2, y2⟩ := HX2.out (by simp [sndC])
        obtain ⟨A2, D2, u2, i2⟩ := y2 0 (by simp [sndC])
        have q1 : (fstC [lst])[0]'(by simp [fstC]) = lst.map fun p => p.1 := rfl
        have q2 : (sndC [lst])[0]'(by simp [sndC]) = lst.map fun p => p.2 := rfl
        rw [q1, List.length_map, Nat.add_zero] at u1
        rw [q1] at i1
        rw [q2, List.length_map, Nat.add_zero] at u2
        rw [q2] at i2
        have C13a : EqOk w6 A1 A3 D1 D3 lst.length := ⟨fun p => by
          have := eq13_ext A1 A3 D1 D3 (lst.map fun p => p.1) i1 i3 (by rw [List.length_map]; omega) p
          rw [List.length_map] at this
          exact this⟩
        have C13b : EqOk w6 A2 A4 D2 D4 lst.length := ⟨fun p => by
          have := eq13_ext A2 A4 D2 D4 (lst.map fun p => p.2) i2 i4 (by rw [List.length_map]; omega) p
          rw [List.length_map] at this
          exact this⟩
        have el1 : (fstC [lst]).length = 1 := rfl
        have el2 : (sndC [lst]).length = 1 := rfl
        rw [el1, el2]
        have hnB1 : B.length = n := HOB.out.symm
        rw [hnB1]
        have xc := @Ext.cell w6
        have xn := Ext.some w6
        have l1 : p1 < w6.heap.size := hp1
        have l2 : p2 < w6.heap.size := hp2
        have l3 : p3 < w6.heap.size := hp3
        have l4 : p4 < w6.heap.size := hp4
        clear hO0 hO1 hC1 y1 y2 y3 y4 i1 i2 i3 i4 q1 q2 el1 el2 hnB1 hp1 hp2 hp3 hp4 z0
        generalize lst.length = m0 at *
        have hm0 : ((m0 : Int) == 4096) = false := by rw [beq_eq_false_iff_ne]; omega
        by_cases hn1 : n = 1
        · subst hn1
          rw [if_pos rfl]
          simp only [Nat.sub_self, Nat.add_zero] at u3 u4
          go_wp2_with fail
          refine wp_region_ext (by kernel_rfl) (by kernel_rfl) ?_
          repeat (go_big_quiet_step (exact eqOk_use (by assumption) _))
          refine wpQuiet_nil ?_
          rintro _ ⟨px, rfl⟩
          go_wp2_with fail
          go_ret
          exact ⟨by simp, HFin.out _ px.prop⟩
        · rw [if_neg hn1]
          have hn0 : ((n : Int) == 0) = false := by rw [beq_eq_false_iff_ne]; omega
          have inp : (0 : Int) < (n : Int) := by omega
          have hwn : IntKind.i64.wrap ((n : Int) - 1) = (n : Int) - 1 := by rw [IntKind.wrap_i64]; omega
          have htn : ((n : Int) - 1).toNat = n - 1 := by omega
          have hb1 : (n : Int) - 1 < (n : Int) := by omega
          have hb2 : (1 : Int) ≤ (n : Int) := by omega
          have hb3 : 1 ≤ n := by omega
          have hb4 : n ≠ 0 := by omega
          have hz1 : ((n : Int) - 1 == 0) = false := by rw [beq_eq_false_iff_ne]; omega
          have hz2 : ((n : Int) - 1 == (n : Int)) = false := by rw [beq_eq_false_iff_ne]; omega
          have hb5 : ¬ (n : Int) < 1 := by omega
          go_wp2_with fail
          refine wp_region_ext (by kernel_rfl) (by kernel_rfl) ?_
          repeat (go_big_quiet_step (exact eqOk_use (by assumption) _))
          refine wpQuiet_nil ?_
          rintro _ ⟨px, rfl⟩
          go_wp2_with fail
          go_ret
          exact ⟨by simp, HFin.out _ px.prop⟩
end Go.Proofs.Qxb6603480a
