/-
  FnWritesByKeyMatchesKeyFirstModel, walked.
-/
import Derived.Test.Qxb6602646aM4
import Derived.Test.Qxb6602646aMat
namespace Go.Proofs.Qxb6602646a
open Go.RowKit

theorem plM_p (T : List PTxn) (s : Nat) (txns : List Int) : ∀ m, ∀ x ∈ plM T s txns m, x.p < m := by
  intro m
  induction m with
  | zero => intro x hx; cases hx
  | succ m ih =>
    intro x hx
    rw [plM] at hx
    rcases List.mem_append.1 hx with hx | hx
    · exact Nat.lt_succ_of_lt (ih x hx)
    · split at hx
      · simp at hx; subst hx; exact Nat.lt_succ_self _
      · cases hx
theorem seM_p (T : List PTxn) (XS : List (List Int)) (N : Nat) (h : ∀ k, (XS.getD k []).length ≤ N) : ∀ k, ∀ x ∈ seM T XS k, x.p < N := by
  intro k
  induction k with
  | zero => intro x hx; cases hx
  | succ k ih =>
    intro x hx
    rw [seM] at hx
    rcases List.mem_append.1 hx with hx | hx
    · exact ih x hx
    · exact Nat.lt_of_lt_of_le (plM_p T k _ _ x hx) (h k)

set_option maxHeartbeats 1000000 in
set_option maxRecDepth 20000 in
theorem main3 (a sa : Option Addr) (c sc : Nat) (S : Nat → Prop) (T : List PTxn) (SS : List PSes) (w : World) (hT : TxnsAt S w a T) (hSS : SessAt S w sa SS) (hS : ∀ b, S b → b < w.heap.size) (hn : T.length ≤ maxLen) (hn2 : SS.length ≤ maxLen) (hnil : a = none → T.length = 0) :
    Calls Try.prog 3 #[.slice a T.length c, .slice sa SS.length sc] w (okPost w) := by
  have HT := hide hT
  have HSS := hide hSS
  have HS := hide hS
  have HI := hide hnil
  have HN := hide hn
  have HN2 := hide hn2
  clear hT hSS hS hn hnil hn2
  go_enter Try.func3, Try.ntmps3
  go_wp2_with fail
  refine (bytes9 a sa c sc S T SS w HT.out HSS.out HN.out HN2.out).mono ?_
  rintro e w' ⟨⟨r, rfl⟩, rfl⟩
  rename World => w
  cases r
  · go_wp2_with fail
    go_ret
    exact ⟨rfl, Below.refl _ _⟩
  go_wp2_with fail
  refine (fits10 a sa c sc S T SS _ HT.out HSS.out HN.out HN2.out).mono ?_
  rintro e w' ⟨⟨r, rfl, hr⟩, rfl⟩
  rename World => w
  cases r
  · clear hr
    go_wp2_with fail
    go_ret
    exact ⟨rfl, Below.refl _ _⟩
  have hF := hr rfl
  have HF := hide hF
  have hTl : T.length ≤ 1048576 := by have := hF.bytes; omega
  have hol : opsSum T ≤ 1048576 := by have := hF.bytes; omega
  have HOL := hide hol
  have hSl := hF.sl
  clear hr hF hol HN HN2
  go_wp2_with fail
  refine (hist12 HF.out a sa c sc S w HT.out HSS.out HS.out HI.out).mono ?_
  rintro e w3 hH
  obtain rfl := hH.1
  have HH3 := hide hH
  have HB3 := hide hH.2.1
  have hsz3 := hH.2.1.size
  clear hH
  go_wp2_with fail
  refine (wbHist HF.out HH3.out).mono ?_
  rintro e w4 hW
  obtain ⟨mb1, rfl, hW1, hB4⟩ := wb11_out hW
  have HW1 := hide hW1
  have HB4 := hide (HB3.out.trans (hB4.mono hsz3))
  have hsz4 := HB4.out.size
  clear hW hW1 hB4 HB3 HH3 hsz3
  go_wp2_with fail
  refine (men13 a sa c sc S T SS w4 (HT.out.kept (fun b hb => HB4.out.block b (HS.out b hb))) (HSS.out.kept (fun b hb => HB4.out.block b (HS.out b hb))) (fun b h => Nat.lt_of_lt_of_le (HS.out b h) hsz4) hTl hSl HF.out.each HF.out.ok HF.out.ev HOL.out).mono ?_
  rintro e w7 ⟨v7, rfl, hM⟩
  obtain ⟨ma, mc, hv7, hMen⟩ := hM.men
  subst hv7
  have HB47 := hide hM.2
  have HB7 := hide (HB4.out.trans (hM.2.mono hsz4))
  have hsz7 := HB7.out.size
  have HMen := hide hMen
  have HT7 := hide ((HT.out.kept (fun b hb => HB7.out.block b (HS.out b hb))).mono (S' := (· < w7.heap.size)) fun b h => Nat.lt_of_lt_of_le (HS.out b h) hsz7)
  have HW7 := hide (HW1.out.grow HB47.out)
  have hmsl : (seM T (txL SS) SS.length).length ≤ 4096 := Nat.le_trans (seM_length T (txL SS) SS.length) HF.out.ev
  have HMok := hide (seM_ok T (txL SS) (fun l hl t ht => by
    unfold txL at hl
    obtain ⟨s, hs, rfl⟩ := List.mem_map.1 hl
    obtain ⟨q, hq, rfl⟩ := List.getElem_of_mem hs
    exact HF.out.ok q hq t ht) SS.length (by rw [txL_length]; exact Nat.le_refl _))
  have HMp := hide (seM_p T (txL SS) 1048576 (fun k => by
    by_cases hk : k < SS.length
    · rw [txL_at SS k hk]; exact HF.out.each k hk
    · have : (txL SS).getD k [] = [] := by simp [List.getD, List.getElem?_eq_none (show (txL SS).length ≤ k by rw [txL_length]; omega)]
      rw [this]; exact Nat.zero_le _) SS.length)
  clear hM hMen HW1 HB47 HB4 hsz4
  go_wp2_with fail
  refine (keys14 a ma c mc (· < w7.heap.size) T (seM T (txL SS) SS.length) w7 HT7.out HMen.out (fun _ h => h) hTl hmsl HMok.out HOL.out (by rw [ks_seM]; exact Nat.le_trans (wk_length _) HF.out.ev)).mono ?_
  rintro e w8 ⟨ka, kc, l, rfl, hI8, hNd, hMem, hl4, hB8⟩
  rw [ks_seM] at hMem
  have HI8 := hide hI8
  have hcnt := wbOf_count (seF T (txL SS) SS.length) l hNd hMem
  have HKey := hide (fun k hk => lkG_of_mem _ _ ((wbOf_keys (seF T (txL SS) SS.length) k).2 ((hMem k).1 hk)))
  have HMa := hide (fun k E (h : lkG (wbOf (seF T (txL SS) SS.length)) k = some E) => lk_mentions T (txL SS) k SS.length h)
  have hsz78 := hB8.size
  have HB78 := hide hB8
  have HBf := hide (HB7.out.trans (hB8.mono hsz7))
  have HW8 := hide (HW7.out.grow hB8)
  have HT8 := hide (HT7.out.kept (SameOn.of_below hB8))
  have HMen8 := hide (HMen.out.kept (SameOn.of_below hB8))
  clear hI8 hNd hMem hB8 HB7 HMen HW7 HT7
  generalize wbOf (seF T (txL SS) SS.length) = W at *
  obtain ⟨ms, hms⟩ : ∃ ms, ms = seM T (txL SS) SS.length := ⟨_, rfl⟩
  rw [← hms] at HMok HMp hmsl HMa HMen8
  rw [← hms]
  clear hms
  obtain ⟨L1, hM1, hL1, _⟩ := HW8.out.look
  have el1 : ((L1.length : Int) != (l.length : Int)) = false := by rw [hL1, hcnt]; simp
  have hl1 : (Builtin.len_ #[25] 3 #[.map (some mb1)]).run Try.prog w8 = .ok (.int .i64 L1.length) w8 := run_len_at 3 Try.underlying25 hM1
  clear hM1 hL1 hcnt
  go_wp2_with fail
  clear el1 hl1
  go_loopw [37] (fun i wr => ∃ k : Nat, k ≤ l.length ∧ i = .int .i64 k ∧ Below w8.heap.size w8 wr) (fun i _ => l.length - (intOf i).toNat)
  case atStart => exact ⟨0, Nat.zero_le _, rfl, Below.refl _ _⟩
  case round =>
    rename World => wr
    obtain ⟨k, hk, rfl, hR⟩ := hrel
    have HR := hide hR
    have hwr := hR.size
    clear hR
    by_cases hlt : k < l.length
    · obtain ⟨b, off, rfl, hb8, hx⟩ := HI8.out (by omega)
      have f1 := (HR.out.cell (p := ⟨b, off + k, none⟩) hb8).trans (hx k hlt)
      obtain ⟨E, hE⟩ := HKey.out l[k] (List.getElem_mem _)
      obtain ⟨L1, hM1, _, hq1⟩ := (HW8.out.grow HR.out).look
      obtain ⟨a1, c1, v1, s1, sr1, le1, li1⟩ := hq1 _ _ hE
      have C15 := hide (match15 a1 a ma c1 c mc (· < w7.heap.size) E T ms l[k] wr (HMa.out _ _ hE) sr1 (HT8.out.kept (fun x hx => HR.out.block x (Nat.lt_of_lt_of_le hx hsz78))) (HMen8.out.kept (fun x hx => HR.out.block x (Nat.lt_of_lt_of_le hx hsz78))) (fun x hx => Nat.lt_of_lt_of_le hx (Nat.le_trans hsz78 hwr)) hTl hmsl HMok.out HOL.out HMp.out le1 li1)
      have HM1 := hide hM1
      generalize l[k] = kk at f1 v1 s1 C15
      clear hx hE hq1 sr1 li1 hM1
      have hki : (k : Int) < (l.length : Int) := by omega
      have hk0 : (0 : Int) ≤ (k : Int) := by omega
      go_wp2_with (first | (at_lookup; refine wpList_lookup_ok rfl _ _ 25 2 33 rfl (int_enc Try.underlying2) Try.underlying25 HM1.out (.slice none 0 0) (by kernel_rfl) kk rfl rfl _ _ v1 s1 ?_) | (go_at_call 15; refine C15.out.mono ?_; rintro e w9 ⟨rfl, hB9⟩; have HB9 := hide hB9; clear hB9))
      go_roundw
      case rel => exact ⟨k + 1, by omega, by go_num, HR.out.trans (HB9.out.mono hwr)⟩
      case measure => simp [intOf]; omega
    · go_wp2_with fail
      go_ret
      exact ⟨rfl, HBf.out.trans (HR.out.mono HBf.out.size)⟩
end Go.Proofs.Qxb6602646a
