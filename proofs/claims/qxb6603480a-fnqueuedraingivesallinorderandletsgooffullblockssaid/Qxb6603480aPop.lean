/-
  FnQueuePopTakesTheFirstItHolds, walked.
-/
import Derived.Test.Qxb6603480aQL
namespace Go.Proofs.Qxb6603480a
open Go.RowKit

def okPost (w : World) (e : Ending) (w' : World) : Prop := e = .returned (.bool true) ∧ Below w.heap.size w w'
theorem tail_slice (w : World) (g lf cap : Nat) (h1 : 1 ≤ lf) (h2 : lf ≤ cap) : (Instr.sliceAt 26 (.slice (some ⟨g, 0, none⟩) lf cap) (some (.int .i64 1)) none none).run Try.prog w = .ok (.slice (some (if cap = 1 then ⟨g, 0, none⟩ else ⟨g, 1, none⟩)) (lf - 1) (cap - 1)) w := by
  have u := Try.underlying26
  have i1 : (1 : Int) ≤ (lf : Int) := by omega
  by_cases hc : cap = 1
  · subst hc
    obtain rfl : lf = 1 := by omega
    simp [go_sem, Instr.sliceAt]
  · simp [go_sem, Instr.sliceAt, hc, i1]
theorem eq13_ext (a b : Option Addr) (c d : Nat) (l : List Int) {w : World} (hA : IntsAt .u32 (· < w.heap.size) w a l) (hB : IntsAt .u32 (· < w.heap.size) w b l) (hl : l.length ≤ 33554432) (p : Ext w) :
    Calls Try.prog 13 #[.slice a l.length c, .slice b l.length d] p.val fun e w' => e = .returned (.bool true) ∧ ∃ q : Ext w, w' = q.val :=
  (eq13 a b c d l p.val (ints_grow hA p.prop) (ints_grow hB p.prop) hl).mono fun _ _ ⟨h1, h2⟩ => ⟨h1, p.grow h2⟩
structure EqOk (w : World) (a b : Option Addr) (c d m : Nat) : Prop where
  run : ∀ p : Ext w, Calls Try.prog 13 #[.slice a m c, .slice b m d] p.val fun e w' => e = .returned (.bool true) ∧ ∃ q : Ext w, w' = q.val
theorem eqOk_use {w : World} {a b : Option Addr} {c d m : Nat} (h : EqOk w a b c d m) (p : Ext w) : Calls Try.prog 13 #[.slice a m c, .slice b m d] p.val fun e w' => e = .returned (.bool true) ∧ ∃ q : Ext w, w' = q.val := h.run p
/-- A grown list: its value, its cells, and its tail. -/
theorem GRel.open {w0 w : World} {l : List Int} {v : Value} (h : GRel 31 1 ucf w0 l v w) (hl : 0 < l.length) : ∃ g cap, v = .slice (some ⟨g, 0, none⟩) l.length cap ∧ l.length ≤ cap ∧ g < w.heap.size ∧ ∀ i (hi : i < l.length), w.cell? ⟨g, i, none⟩ = some (.int .u32 l[i]) := by
  rcases h.1.2 with ⟨_, h2⟩ | ⟨g, cap, cur, e1, _, _, e4, _⟩
  · omega
  · obtain ⟨a, c, e2, h2⟩ := h.ints
    rw [e1] at e2
    cases e2
    obtain ⟨b, off, e3, h3, h4⟩ := h2 hl
    cases e3
    exact ⟨g, cap, e1, e4, h3, fun i hi => by have := h4 i hi; rwa [Nat.zero_add] at this⟩
theorem tail_ints {w : World} {g cap : Nat} {x : Int} {l : List Int} (hg : g < w.heap.size) (hl : (x :: l).length ≤ cap) (h : ∀ i (hi : i < (x :: l).length), w.cell? ⟨g, i, none⟩ = some (.int .u32 (x :: l)[i])) : IntsAt .u32 (· < w.heap.size) w (some (if cap = 1 then ⟨g, 0, none⟩ else ⟨g, 1, none⟩)) l := fun hp => by
  have hc : ¬ cap = 1 := by simp at hl; omega
  rw [if_neg hc]
  refine ⟨g, 1, rfl, hg, fun i hi => ?_⟩
  have := h (i + 1) (by simpa using hi)
  rw [Nat.add_comm 1 i]
  simpa using this

set_option maxHeartbeats 4000000 in
set_option maxRecDepth 20000 in
theorem mainPop (a b : Option Addr) (c d : Nat) (hd : Int) (S : Nat → Prop) (O C : List (List Int)) (w : World) (hO : RowsAt .u32 S w a O) (hC : RowsAt .u32 S w b C) (hS : ∀ b, S b → b < w.heap.size) (hn : O.length ≤ maxLen) (hn2 : C.length ≤ maxLen) (hnil : a = none → O.length = 0) (hnil2 : b = none → C.length = 0) :
    Calls Try.prog 3 #[.slice a O.length c, .slice b C.length d, .int .i64 hd] w (okPost w) := by
  have HO := hide hO
  have HC := hide hC
  have HS := hide hS
  have HI := hide hnil
  have HI2 := hide hnil2
  have C5 := hide (bytes5 a b c d hd S O C w hO hC hn hn2)
  clear hO hC hS hnil hnil2 hn hn2
  go_enter Try.func3, Try.ntmps3
  go_wp2_with fail
  refine C5.out.mono ?_
  rintro e w' ⟨⟨r, rfl⟩, hw⟩
  obtain rfl : w = w' := hw.symm
  cases r
  · go_wp2_with fail
    go_ret
    exact ⟨rfl, Below.refl _ _⟩
  by_cases g1 : (4096 : Int) < O.length
  · go_wp2_with fail
    go_ret
    exact ⟨rfl, Below.refl _ _⟩
  have d1 : decide ((4096 : Int) < O.length) = false := by simpa using g1
  by_cases g2 : (4096 : Int) < C.length
  · go_wp2_with fail
    go_ret
    exact ⟨rfl, Below.refl _ _⟩
  have d2 : decide ((4096 : Int) < C.length) = false := by simpa using g2
  have hn4 : O.length ≤ 4096 := by omega
  have hm4 : C.length ≤ 4096 := by omega
  go_wp2_with fail
  refine (qbytes6 a b c d S O C w HO.out HC.out hn4 hm4).mono ?_
  rintro e w' ⟨⟨r, rfl⟩, hw⟩
  obtain rfl : w = w' := hw.symm
  clear d1 d2 g1 g2
  by_cases g3 : (1048576 : Int) < r
  · go_wp2_with fail
    go_ret
    exact ⟨rfl, Below.refl _ _⟩
  go_wp2_with fail
  refine (shape7 a b c d hd S O C w HO.out HC.out hn4).mono ?_
  rintro e w' ⟨⟨r, rfl, hr⟩, hw⟩
  obtain rfl : w = w' := hw.symm
  cases r
  · clear hr
    go_wp2_with fail
    go_ret
    exact ⟨rfl, Below.refl _ _⟩
  have hs : ShapeP O C hd := hr.1 rfl
  have eB1 := pairs_fst hs
  have eB2 := pairs_snd hs
  obtain ⟨B, hB⟩ : ∃ B, B = pairs O C := ⟨_, rfl⟩
  rw [← hB] at eB1 eB2
  have hsB := hs
  rw [← eB1, ← eB2] at hsB
  obtain ⟨h, rfl, hSh⟩ := shB_of hsB
  have hlen := hs.len
  have HSh := hide hSh
  have Hs := hide hs
  have HLn := hide hlen
  have HE1 := hide eB1
  have HE2 := hide eB2
  have HB := hide hB
  have hBl : B.length ≤ 4096 := by rw [hB, pairs_len]; exact hn4
  have HBl := hide hBl
  clear hr g3 hs eB1 eB2 hB hsB hSh hlen hBl
  have HrO : Hid (∀ i (h : i < O.length), 1 ≤ O[i].length ∧ O[i].length ≤ 4096) := fun i hi => by
    have := Hs.out.each i hi (by rw [HLn.out]; exact hi)
    exact ⟨this.2.1, this.2.2.1⟩
  have HrC : Hid (∀ i (h : i < C.length), 1 ≤ C[i].length ∧ C[i].length ≤ 4096) := fun i hi => by
    have := Hs.out.each i (by rw [← HLn.out]; exact hi) hi
    rw [this.1]
    exact ⟨this.2.1, this.2.2.1⟩
  go_wp2_with fail
  refine (copy8 a c S O w HO.out HS.out HI.out hn4 HrO.out).mono ?_
  rintro e w1 ⟨a1, c1, rfl, hR1, hB1⟩
  have hsz1 := hB1.size
  have HR1 := hide (hR1.mono (S' := (· < w1.heap.size)) fun _ hb => hb.2)
  have HB1 := hide hB1
  clear hR1 hB1
  go_wp2_with fail
  refine (copy8 b d S C w1 (HC.out.kept (fun x hx => HB1.out.block x (HS.out x hx))) (fun x hx => Nat.lt_of_lt_of_le (HS.out x hx) hsz1) HI2.out hm4 HrC.out).mono ?_
  rintro e w2 ⟨a2, c2, rfl, hR2, hB2⟩
  have HR2 := hide (hR2.mono (S' := (· < w2.heap.size)) fun _ hb => hb.2)
  have HR1b := hide (HR1.out.grow hB2)
  have HB2 := hide (HB1.out.trans (hB2.mono hsz1))
  have hsz2 := HB2.out.size
  clear hR2 hB2 HR1 HB1 hsz1
  go_wp2_with fail
  refine (flat9 a1 a2 c1 c2 h (· < w2.heap.size) O C w2 HR1b.out HR2.out (fun _ h => h) Hs.out hn4).mono ?_
  rintro e w3 ⟨v1, v2, rfl, hT⟩
  have HTw := hide hT
  have HB3 := hide (HB2.out.trans (hT.1.2.mono hsz2))
  have hsz3 := HB3.out.size
  have HO3 := hide (HR1b.out.grow hT.1.2)
  have HC3 := hide (HR2.out.grow hT.1.2)
  obtain ⟨fa, fc, hv1⟩ := hT.1.val
  obtain ⟨ga, gc, hv2⟩ := hT.2.1.val
  subst hv1 hv2
  have ef : (flat O h).length = (flatB B h).length := by rw [← HE1.out, flat_fst, List.length_map]
  have eg : (flat C h).length = (flatB B h).length := by rw [← HE2.out, flat_snd, List.length_map]
  rw [ef, eg]
  obtain ⟨lf, hlf⟩ : ∃ lf, lf = (flatB B h).length := ⟨_, rfl⟩
  rw [← hlf]
  have HLf := hide hlf
  clear hT HB2 HR1b HR2 hsz2 ef eg hlf
  go_wp2_with fail
  refine (new10 a1 a2 c1 c2 h (· < w3.heap.size) O C w3 HO3.out HC3.out (fun _ h => h) Hs.out.each HLn.out hn4).mono ?_
  rintro e w4 ⟨rfl, hQ4⟩
  rw [← HB.out] at hQ4
  have HQ4 := hide hQ4
  clear hQ4
  obtain ⟨qb, hqb⟩ : ∃ qb, qb = w3.heap.size := ⟨_, rfl⟩
  rw [← hqb]
  have HQB := hide hqb
  clear hqb
  by_cases hemp : flatB B h = []
  · obtain rfl : lf = 0 := by rw [HLf.out, hemp]; rfl
    have hpop := pop11_none HQ4.out (by
      rcases flat_nil hemp HSh.out with q | ⟨q1, q2⟩
      · exact .inl q
      · exact .inr ⟨q1, by rw [← q2]⟩)
    rw [← HQB.out] at hpop
    have C11 := hide hpop
    clear hpop hemp
    go_wp2_with fail
    refine C11.out.mono ?_
    rintro e w5 ⟨rfl, hQ5⟩
    have hst := state12 hQ5 HBl.out (fun i hi => (HSh.out.each i hi).2.1)
    have HB35 : Hid (Below w3.heap.size w3 w5) := by
      obtain ⟨_, _, _, _, q⟩ := hQ5
      have := q.bel
      rw [HQB.out] at this
      exact this
    have C12 := hide hst
    clear hst hQ5 C11
    go_wp2_with fail
    refine C12.out.mono ?_
    rintro e w6 ⟨b1, e1, b2, e2, rfl, hX1, hX2, hB6⟩
    rw [HE1.out] at hX1
    rw [HE2.out] at hX2
    rw [HE1.out, HE2.out]
    have HX1 := hide hX1
    have HX2 := hide hX2
    have HB36 := hide (HB35.out.trans (hB6.mono HB35.out.size))
    have HO6 := hide (HO3.out.grow HB36.out)
    have HC6 := hide (HC3.out.grow HB36.out)
    clear hX1 hX2 hB6 C12 HB35
    go_wp2_with fail
    refine (shape7 b1 b2 e1 e2 h (· < w6.heap.size) O C w6 HX1.out HX2.out hn4).mono ?_
    rintro e w' ⟨⟨r, rfl, hr⟩, hw⟩
    obtain rfl : w6 = w' := hw.symm
    obtain rfl : r = true := hr.2 Hs.out
    clear hr
    obtain ⟨n, hnn⟩ : ∃ n, n = O.length := ⟨_, rfl⟩
    have hCn : C.length = n := by rw [HLn.out, hnn]
    rw [← hnn, hCn]
    rw [← hnn] at hn4
    have HNn := hide hnn
    have HCn := hide hCn
    clear hnn hCn hm4
    go_wp2_with fail
    go_loopw [17] (fun i wr => ∃ k : Nat, k ≤ n ∧ i = .int .i64 k ∧ Below w6.heap.size w6 wr) (fun i _ => n - (intOf i).toNat)
    case atStart => exact ⟨0, Nat.zero_le _, rfl, Below.refl _ _⟩
    case round =>
      rename World => wr
      obtain ⟨k, hk, rfl, hBr⟩ := hrel
      have HBr := hide hBr
      have hwr := hBr.size
      clear hBr
      by_cases hlt : k < n
      · have hkO : k < O.length := by rw [← HNn.out]; exact hlt
        have hkC : k < C.length := by rw [HCn.out]; exact hlt
        have lO := (HrO.out k hkO).2
        have lC := (HrC.out k hkC).2
        obtain ⟨p1, o1, rfl, hp1, y1⟩ := HX1.out (by omega)
        obtain ⟨p2, o2, rfl, hp2, y2⟩ := HX2.out (by omega)
        obtain ⟨p3, o3, rfl, hp3, y3⟩ := HO6.out (by omega)
        obtain ⟨p4, o4, rfl, hp4, y4⟩ := HC6.out (by omega)
        obtain ⟨A1, D1, u1, i1⟩ := y1 k hkO
        obtain ⟨A2, D2, u2, i2⟩ := y2 k hkC
        obtain ⟨A3, D3, u3, i3⟩ := y3 k hkO
        obtain ⟨A4, D4, u4, i4⟩ := y4 k hkC
        have f1 := (HBr.out.cell (p := ⟨p1, o1 + k, none⟩) hp1).trans u1
        have f2 := (HBr.out.cell (p := ⟨p2, o2 + k, none⟩) hp2).trans u2
        have f3 := (HBr.out.cell (p := ⟨p3, o3 + k, none⟩) hp3).trans u3
        have f4 := (HBr.out.cell (p := ⟨p4, o4 + k, none⟩) hp4).trans u4
        have C13a : EqOk wr A1 A3 D1 D3 O[k].length := ⟨fun p => eq13_ext A1 A3 D1 D3 O[k] (ints_grow i1 HBr.out) (ints_grow i3 HBr.out) (by omega) p⟩
        have C13b : EqOk wr A2 A4 D2 D4 C[k].length := ⟨fun p => eq13_ext A2 A4 D2 D4 C[k] (ints_grow i2 HBr.out) (ints_grow i4 HBr.out) (by omega) p⟩
        generalize O[k].length = m1 at f1 f3 C13a
        generalize C[k].length = m2 at f2 f4 C13b
        have xc := @Ext.cell wr
        have xn := Ext.some wr
        have L1 : p1 < wr.heap.size := Nat.lt_of_lt_of_le hp1 hwr
        have L2 : p2 < wr.heap.size := Nat.lt_of_lt_of_le hp2 hwr
        have L3 : p3 < wr.heap.size := Nat.lt_of_lt_of_le hp3 hwr
        have L4 : p4 < wr.heap.size := Nat.lt_of_lt_of_le hp4 hwr
        have hki : (k : Int) < (n : Int) := by omega
        have hk0 : (0 : Int) ≤ (k : Int) := by omega
        clear y1 y2 y3 y4 u1 u2 u3 u4 i1 i2 i3 i4
        go_wp2_with fail
        refine wp_region_ext (by kernel_rfl) (by kernel_rfl) ?_
        repeat (go_big_quiet_step (exact eqOk_use (by assumption) _))
        refine wpQuiet_nil ?_
        rintro _ ⟨px, rfl⟩
        go_wp2_with fail
        go_roundw
        case rel => exact ⟨k + 1, by omega, by go_num, HBr.out.trans (px.prop.mono hwr)⟩
        case measure => simp [intOf]; omega
      · go_wp2_with fail
        go_ret
        exact ⟨rfl, HB3.out.trans ((HB36.out.trans (HBr.out.mono HB36.out.size)).mono hsz3)⟩
  · obtain ⟨b0, R, hBc, hh, h4, hb4, hfl, hSn, hlast⟩ := flat_some hemp HSh.out
    have hRl : R.length ≤ 4096 := by have := HBl.out; rw [hBc] at this; simp at this; omega
    have hq4 := HQ4.out
    rw [hBc] at hq4
    have hpop := pop11_some hq4 hh h4 hb4 hRl
    rw [← hBc, ← HQB.out] at hpop
    -- the flat lists
    have hff : flat O h = b0[h].1 :: flat (fstC (nextB B h)) (nextH h) := by rw [← HE1.out, flat_fst, hfl, flat_fst]; rfl
    have hfg : flat C h = b0[h].2 :: flat (sndC (nextB B h)) (nextH h) := by rw [← HE2.out, flat_snd, hfl, flat_snd]; rfl
    have hlfp : lf = (flatB (nextB B h) (nextH h)).length + 1 := by rw [HLf.out, hfl]; simp
    obtain ⟨x, hx⟩ : ∃ x, x = b0[h] := ⟨_, rfl⟩
    rw [← hx] at hpop hff hfg
    have hnl := Nat.le_trans (nextB_len B h) HBl.out
    have hF1 : (flat O h).length = lf := by rw [← HE1.out, flat_fst, List.length_map, HLf.out]
    have hF2 : (flat C h).length = lf := by rw [← HE2.out, flat_snd, List.length_map, HLf.out]
    obtain ⟨gf, cf, ev1, hcf, hgf, hcl1⟩ := HTw.out.1.open (by rw [hff]; simp)
    obtain ⟨gg, cg, ev2, hcg, hgg, hcl2⟩ := HTw.out.2.1.open (by rw [hfg]; simp)
    obtain ⟨rfl, rfl⟩ : fa = some ⟨gf, 0, none⟩ ∧ fc = cf := by cases ev1; exact ⟨rfl, rfl⟩
    obtain ⟨rfl, rfl⟩ : ga = some ⟨gg, 0, none⟩ ∧ gc = cg := by cases ev2; exact ⟨rfl, rfl⟩
    rw [hF1] at hcf
    rw [hF2] at hcg
    -- the first block's length, as the law reads it
    have hO0 : ∃ h0 : 0 < O.length, O[0].length = b0.length := by
      have e : O = fstC (b0 :: R) := by rw [← HE1.out, hBc]
      subst e
      exact ⟨by simp [fstC], by simp [fstC]⟩
    have hcl1' : ∀ i (hi : i < (x.1 :: flat (fstC (nextB B h)) (nextH h)).length), w3.cell? ⟨gf, i, none⟩ = some (.int .u32 (x.1 :: flat (fstC (nextB B h)) (nextH h))[i]) := by rw [← hff]; exact hcl1
    have hcl2' : ∀ i (hi : i < (x.2 :: flat (sndC (nextB B h)) (nextH h)).length), w3.cell? ⟨gg, i, none⟩ = some (.int .u32 (x.2 :: flat (sndC (nextB B h)) (nextH h))[i]) := by rw [← hfg]; exact hcl2
    have hl1 : (x.1 :: flat (fstC (nextB B h)) (nextH h)).length ≤ fc := by rw [← hff, hF1]; exact hcf
    have hl2 : (x.2 :: flat (sndC (nextB B h)) (nextH h)).length ≤ gc := by rw [← hfg, hF2]; exact hcg
    have HCL1 := hide hcl1'
    have HCL2 := hide hcl2'
    have HL1 := hide hl1
    have HL2 := hide hl2
    have HO0 := hide hO0
    have HSn := hide hSn
    have HNl := hide hnl
    have HLs := hide hlast
    have C11 := hide hpop
    have hlf1 : 1 ≤ lf := by omega
    have lfb : lf ≤ 16781312 := by rw [HLf.out]; exact flatB_len B h HSh.out HBl.out
    have HLp := hide hlfp
    have hlen1 : (flat (fstC (nextB B h)) (nextH h)).length = (flatB (nextB B h) (nextH h)).length := by rw [flat_fst, List.length_map]
    have hlen2 : (flat (sndC (nextB B h)) (nextH h)).length = (flatB (nextB B h) (nextH h)).length := by rw [flat_snd, List.length_map]
    have HM1 := hide hlen1
    have HM2 := hide hlen2
    have hb0h : h < b0.length ∧ b0.length ≤ 4096 := ⟨hh, hb4⟩
    obtain ⟨m0, hm0⟩ : ∃ m0, m0 = b0.length := ⟨_, rfl⟩
    have HM0 := hide hm0
    rw [← hm0] at hb0h
    obtain ⟨hb0h1, hb0h2⟩ := hb0h
    clear hpop hemp hq4 hfl hff hfg hlfp hnl hF1 hF2 ev1 ev2 hcl1 hcl2 hcl1' hcl2' hl1 hl2 hO0 hSn hlast hx hlen1 hlen2 hm0 hBc hRl hb4
    clear hh
    go_wp2_with fail
    refine C11.out.mono ?_
    rintro e w5 ⟨rfl, hQ5⟩
    have hst := state12 hQ5 HNl.out (fun i hi => (HSn.out.each i hi).2.1)
    have HB35 : Hid (Below w3.heap.size w3 w5) := by
      obtain ⟨_, _, _, _, q⟩ := hQ5
      have := q.bel
      rw [HQB.out] at this
      exact this
    have C12 := hide hst
    clear hst hQ5 C11
    go_wp2_with fail
    refine C12.out.mono ?_
    rintro e w6 ⟨b1, e1, b2, e2, rfl, hX1, hX2, hB6⟩
    have HX1 := hide hX1
    have HX2 := hide hX2
    have HB36 := hide (HB35.out.trans (hB6.mono HB35.out.size))
    have hs36 := HB36.out.size
    have HO6 := hide (HO3.out.grow HB36.out)
    have C7 := hide (shape7 b1 b2 e1 e2 (nextH h) (· < w6.heap.size) (fstC (nextB B h)) (sndC (nextB B h)) w6 hX1 hX2 (by rw [fstC_len]; exact HNl.out))
    have C9 := hide (flat9 b1 b2 e1 e2 (nextH h) (· < w6.heap.size) (fstC (nextB B h)) (sndC (nextB B h)) w6 hX1 hX2 (fun _ h => h) (shape_of HSn.out) (by rw [fstC_len]; exact HNl.out))
    have HSp := hide (shape_of HSn.out)
    -- what the law reads of the flat lists
    have f0 := (HB36.out.cell (p := ⟨gf, 0, none⟩) hgf).trans (HCL1.out 0 (by simp))
    have f1 := (HB36.out.cell (p := ⟨gg, 0, none⟩) hgg).trans (HCL2.out 0 (by simp))
    simp only [List.getElem_cons_zero] at f0 f1
    clear hX1 hX2 hB6 C12 HB35
    go_wp2_with fail
    refine C7.out.mono ?_
    rintro e w' ⟨⟨r, rfl, hr⟩, hw⟩
    obtain rfl : w6 = w' := hw.symm
    obtain rfl : r = true := hr.2 HSp.out
    clear hr C7
    have hlfb : ((lf : Int) == 0) = false := by rw [beq_eq_false_iff_ne]; omega
    have ilf : (0 : Int) < (lf : Int) := by omega
    go_upto_region 28 with fail
    clear f0 f1
    obtain ⟨k1, hk1⟩ : ∃ k1, k1 = (flatB (nextB B h) (nextH h)).length := ⟨_, rfl⟩
    rw [← hk1] at HM1 HM2 HLp
    clear hk1
    go_upto_region 30 with (go_at_call 9; refine C9.out.mono ?_; rintro e w7 ⟨u1, u2, rfl, hT7⟩)
    rename World => w7
    have HT7 := hide hT7
    have hB37 := HB36.out.trans (hT7.1.2.mono hs36)
    have HB37 := hide hB37
    obtain ⟨ua, uc, hu1⟩ := hT7.1.val
    obtain ⟨ub, ud, hu2⟩ := hT7.2.1.val
    subst hu1 hu2
    rw [HM1.out, HM2.out]
    obtain ⟨ua', uc', eu1, hI1⟩ := hT7.1.ints
    obtain ⟨ub', ud', eu2, hI2⟩ := hT7.2.1.ints
    obtain ⟨rfl, rfl⟩ : ua = ua' ∧ uc = uc' := by cases eu1; exact ⟨rfl, rfl⟩
    obtain ⟨rfl, rfl⟩ : ub = ub' ∧ ud = ud' := by cases eu2; exact ⟨rfl, rfl⟩
    have hlk : lf - 1 = k1 := by have := HLp.out; omega
    have hk1b : k1 ≤ 33554432 := by omega
    have hgf7 : gf < w7.heap.size := Nat.lt_of_lt_of_le hgf hB37.size
    have hgg7 : gg < w7.heap.size := Nat.lt_of_lt_of_le hgg hB37.size
    have hJ1 := tail_ints (cap := fc) hgf7 HL1.out (fun i hi => (hB37.cell (p := ⟨gf, i, none⟩) hgf).trans (HCL1.out i hi))
    have hJ2 := tail_ints (cap := gc) hgg7 HL2.out (fun i hi => (hB37.cell (p := ⟨gg, i, none⟩) hgg).trans (HCL2.out i hi))
    have t1 := fun w => tail_slice w gf lf fc hlf1 hcf
    have t2 := fun w => tail_slice w gg lf gc hlf1 hcg
    obtain ⟨n1, hn1⟩ : ∃ n1 : Addr, n1 = if fc = 1 then ⟨gf, 0, none⟩ else ⟨gf, 1, none⟩ := ⟨_, rfl⟩
    obtain ⟨n2, hn2⟩ : ∃ n2 : Addr, n2 = if gc = 1 then ⟨gg, 0, none⟩ else ⟨gg, 1, none⟩ := ⟨_, rfl⟩
    rw [← hn1] at hJ1 t1
    rw [← hn2] at hJ2 t2
    rw [hlk] at t1 t2
    have HJ1 := hide hJ1
    have HJ2 := hide hJ2
    have HI1 := hide hI1
    have HI2' := hide hI2
    have C13a : Hid (∀ w8, Below w7.heap.size w7 w8 → Calls Try.prog 13 #[.slice ua k1 uc, .slice (some n1) k1 (fc - 1)] w8 (tPost w8)) := by
      show ∀ w8, _ → _
      intro w8 hb
      have := eq13 ua (some n1) uc (fc - 1) (flat (fstC (nextB B h)) (nextH h)) w8 (ints_grow HI1.out hb) (ints_grow HJ1.out hb) (by rw [HM1.out]; exact hk1b)
      rw [HM1.out] at this
      exact this
    have C13b : Hid (∀ w8, Below w7.heap.size w7 w8 → Calls Try.prog 13 #[.slice ub k1 ud, .slice (some n2) k1 (gc - 1)] w8 (tPost w8)) := by
      show ∀ w8, _ → _
      intro w8 hb
      have := eq13 ub (some n2) ud (gc - 1) (flat (sndC (nextB B h)) (nextH h)) w8 (ints_grow HI2'.out hb) (ints_grow HJ2.out hb) (by rw [HM2.out]; exact hk1b)
      rw [HM2.out] at this
      exact this
    have HO7 := hide (HO6.out.grow hT7.1.2)
    have HFin := hide (fun w9 (hb : Below w7.heap.size w7 w9) => HB3.out.trans ((HB37.out.trans (hb.mono HB37.out.size)).mono hsz3))
    clear hT7 hB37 eu1 eu2 hI1 hI2 hJ1 hJ2 hn1 hn2 hlk C9 HT7
    by_cases hlst : h + 1 = 4096
    · obtain ⟨h0, hO0⟩ := HO0.out
      obtain ⟨p3, o3, rfl, hp3, y3⟩ := HO7.out h0
      obtain ⟨A3, D3, u3, _⟩ := y3 0 h0
      rw [hO0, HLs.out hlst, Nat.add_zero] at u3
      have s1 : nextS h 0 = 4096 := if_pos hlst
      rw [s1]
      have hh1 : ((h : Int) == 4095) = true := by rw [beq_iff_eq]; omega
      have iO : (0 : Int) < (O.length : Int) := by omega
      obtain ⟨nO, hnO⟩ : ∃ nO, nO = O.length := ⟨_, rfl⟩
      rw [← hnO] at iO
      rw [← hnO]
      clear y3 s1 hlst hnO
      go_wp2_with (go_at_call 13; first | (refine (C13a.out _ (Below.refl _ _)).mono ?_; rintro e w8 ⟨rfl, hB8⟩; have HB8 := hide hB8; clear hB8 C13a) | (refine (C13b.out _ HB8.out).mono ?_; rintro e w9 ⟨rfl, hB9⟩; have HB9 := hide hB9; clear hB9))
      go_ret
      exact ⟨rfl, HFin.out _ (HB8.out.trans (HB9.out.mono HB8.out.size))⟩
    · have s1 : nextS h 0 = 0 := if_neg hlst
      rw [s1]
      have hh1 : ((h : Int) == 4095) = false := by rw [beq_eq_false_iff_ne]; omega
      clear s1 hlst
      go_wp2_with (go_at_call 13; first | (refine (C13a.out _ (Below.refl _ _)).mono ?_; rintro e w8 ⟨rfl, hB8⟩; have HB8 := hide hB8; clear hB8 C13a) | (refine (C13b.out _ HB8.out).mono ?_; rintro e w9 ⟨rfl, hB9⟩; have HB9 := hide hB9; clear hB9))
      go_ret
      exact ⟨rfl, HFin.out _ (HB8.out.trans (HB9.out.mono HB8.out.size))⟩
end Go.Proofs.Qxb6603480a
