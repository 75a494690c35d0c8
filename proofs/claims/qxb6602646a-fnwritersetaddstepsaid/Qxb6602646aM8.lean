/-
  FnWriterSetScriptWriters, walked.
-/
import Derived.Test.Qxb6602646aScr2
import Derived.Test.Qxb6602646aTop
namespace Go.Proofs.Qxb6602646a
open Go.RowKit

def ScrRel (Fp SH : Nat → Prop) (w0 : World) (wb hb : Nat) (ta : Option Addr) (tc : Nat) (T : List PTxn) (av : Value) (mb : Nat) (script : List Int) (m : Nat) (wr : World) : Prop :=
  Below w0.heap.size w0 wr ∧ ∃ rnd al recs, AddPre Fp SH wr wb hb ta tc T rnd av al mb recs ∧ ScrInv T rnd al (absR recs) (scrS script m) ∧ (∀ p ∈ recs, p.2.tx.length ≤ m) ∧ 1 ≤ rnd ∧ rnd ≤ m + 1
def SetUp (w0 : World) (T : List PTxn) (script : List Int) (v : Value) (wc : World) : Prop :=
  ∃ Fp SH wb hb ta tc av mb, v = .pointer (some ⟨wb, 0, none⟩) ∧ (∀ b, Fp b → w0.heap.size ≤ b) ∧ ScrRel Fp SH w0 wb hb ta tc T av mb script 0 wc
theorem AddPre.next {Fp SH : Nat → Prop} {w w' : World} {wb hb : Nat} {ta : Option Addr} {tc : Nat} {T : List PTxn} {rnd rnd' : Int} {av : Value} {al al' : List Int} {mb : Nat} {recs recs' : List (Int × CRec)}
    (h : AddPre Fp SH w wb hb ta tc T rnd av al mb recs) (k : WsAt Fp w' wb (.pointer (some ⟨hb, 0, none⟩)) rnd' av al' mb recs') (o : Out Fp w w') : AddPre Fp SH w' wb hb ta tc T rnd' av al' mb recs' :=
  ⟨k, (o.cell h.shb.1 h.shb.2).trans h.hist, h.txns.kept (fun b hb => o.block b (h.sh b hb).1 (h.sh b hb).2), fun b hb => ⟨Nat.lt_of_lt_of_le (h.sh b hb).1 o.size, (h.sh b hb).2⟩, ⟨Nat.lt_of_lt_of_le h.shb.1 o.size, h.shb.2⟩, fun b hb => h.new b (Nat.le_trans o.size hb)⟩
theorem below_out {Fp : Nat → Prop} {w0 w w' : World} (h : Below w0.heap.size w0 w) (o : Out Fp w w') (hF : ∀ b, Fp b → w0.heap.size ≤ b) : Below w0.heap.size w0 w' :=
  ⟨o.os.trans h.os, o.tape.trans h.tape, o.output.trans h.output, Nat.le_trans h.size o.size, fun b hb => (o.block b (Nat.lt_of_lt_of_le hb h.size) (fun e => by have := hF b e; omega)).trans (h.block b hb)⟩

section
variable {Fp SH : Nat → Prop} {w0 wr : World} {wb hb : Nat} {ta : Option Addr} {tc : Nat} {T : List PTxn} {av : Value} {mb : Nat} {script : List Int} {m : Nat}
/-- One add of the script. -/
theorem ScrRel.add (h : ScrRel Fp SH w0 wb hb ta tc T av mb script m wr) (hF : ∀ b, Fp b → w0.heap.size ≤ b) (hm : m < script.length) (hml : script.length ≤ 4096) (hs : ¬ script[m] < -1) (hsT : script[m] < T.length) (hTl : T.length ≤ 1048576) (hol : opsSum T ≤ 4096) :
    Calls Try.prog 32 #[.pointer (some ⟨wb, 0, none⟩), .int .i64 script[m]] wr (endPost fun w' => ScrRel Fp SH w0 wb hb ta tc T av mb script (m + 1) w') := by
  obtain ⟨hB, rnd, al, recs, hP, hI, hL, h1, h2⟩ := h
  refine add32 ?_
  have hsn := scrS_snoc script m hm
  generalize script[m] = s at *
  by_cases e : s = -1
  · subst e
    refine (add_initial wb wr).mono ?_
    rintro e w' ⟨rfl, hw⟩
    refine ⟨rfl, hB.trans (hw.mono hB.size), rnd, al, recs, hP.next (hP.ws.grow hw) (Out.of_below hw), ?_, fun p hp => Nat.le_succ_of_le (hL p hp), h1, by omega⟩
    rw [hsn]; exact hI.initial
  · obtain ⟨t, rfl⟩ : ∃ t : Nat, s = (t : Int) := ⟨s.toNat, by omega⟩
    have hta : t < al.length := by rw [hI.len]; omega
    have htT : t < T.length := by omega
    by_cases hr : al[t] = rnd
    · refine (add_idle Fp wb mb _ av rnd al recs t wr hP.ws hta hr (by rw [hI.len]; exact hTl)).mono ?_
      rintro e w' ⟨rfl, hw⟩
      refine ⟨rfl, hB.trans (hw.mono hB.size), rnd, al, recs, hP.next (hP.ws.grow hw) (Out.of_below hw), ?_, fun p hp => Nat.le_succ_of_le (hL p hp), h1, by omega⟩
      rw [hsn]; exact hI.again hta hr
    · refine (add_any Fp SH wr wb hb ta tc T rnd av al mb recs t m hP hta hr htT (by rw [hI.len]; exact hTl) hTl (by have := opsSum_at T t htT; omega) (by omega) hL).mono ?_
      rintro e w' ⟨rfl, recs', hw, ha, hl, ho⟩
      refine ⟨rfl, below_out hB ho hF, rnd, al.set t rnd, recs', hP.next hw ho, ?_, fun p hp => ?_, h1, by omega⟩
      · rw [hsn, ha, List.take_length]; exact hI.add hta htT hr
      · rcases hl p hp with q | ⟨_, q⟩ <;> omega
/-- One emptying. -/
theorem ScrRel.reset (h : ScrRel Fp SH w0 wb hb ta tc T av mb script m wr) (hF : ∀ b, Fp b → w0.heap.size ≤ b) (hm : m < script.length) (hs : script[m] < -1) :
    ∃ rnd : Int, 1 ≤ rnd ∧ rnd ≤ m + 1 ∧ wr.cell? ⟨wb, 1, none⟩ = some (.int .i64 rnd) ∧ wr.frozen? ⟨wb, 1, none⟩ = false ∧ ScrRel Fp SH w0 wb hb ta tc T av mb script (m + 1) (wr.setCell ⟨wb, 1, none⟩ (.int .i64 (rnd + 1))) := by
  obtain ⟨hB, rnd, al, recs, hP, hI, hL, h1, h2⟩ := h
  have ho : Out Fp wr (wr.setCell ⟨wb, 1, none⟩ (.int .i64 (rnd + 1))) := (Out.refl Fp wr).setCell (a := ⟨wb, 1, none⟩) hP.ws.fwb _
  refine ⟨rnd, h1, h2, hP.ws.row.cell (show 1 < 4 by omega), hP.ws.row.frozen 1, below_out hB ho hF, rnd + 1, al, recs, hP.next (hP.ws.setRound (rnd + 1)) ho, ?_, fun p hp => Nat.le_succ_of_le (hL p hp), by omega, by omega⟩
  rw [scrS_snoc script m hm]
  exact hI.reset hs
end
/-- The set as the law makes it. -/
theorem setup {w0 w2 w4 : World} {hb ab : Nat} {ta : Option Addr} {tc : Nat} {T : List PTxn} {script : List Int} {SH : Nat → Prop} (hB : Below w0.heap.size w0 w2) (hH : w2.cell? ⟨hb, 0, none⟩ = some (.slice ta T.length tc)) (hT : TxnsAt SH w2 ta T)
    (hSH : ∀ b, SH b → b < w2.heap.size ∧ b ≠ ab) (hhb : hb < w2.heap.size ∧ hb ≠ ab) (hA : w2.rowIs ab 3 T.length (fun _ => .int .i64 0)) (hab : w0.heap.size ≤ ab) (hTl : T.length ≤ 1048576)
    (k : Below (w2.heap.size + 2) ((w2.alloc (.map #[] 0)).alloc (.cells #[.pointer (some ⟨hb, 0, none⟩), .int .i64 1, .slice (some ⟨ab, 0, none⟩) T.length T.length, .map (some w2.heap.size)] 110)) w4) :
    SetUp w0 T script (.pointer (some ⟨w2.heap.size + 1, 0, none⟩)) w4 := by
  have hAl := hA.lt
  have b1 : Below w2.heap.size w2 ((w2.alloc (.map #[] 0)).alloc (.cells #[.pointer (some ⟨hb, 0, none⟩), .int .i64 1, .slice (some ⟨ab, 0, none⟩) T.length T.length, .map (some w2.heap.size)] 110)) := ((Below.refl _ _).alloc (Nat.le_refl _) _).alloc (by simp) _
  have b2 : Below w2.heap.size w2 w4 := b1.trans (k.mono (by omega))
  have hsz4 : w2.heap.size + 2 ≤ w4.heap.size := by have := k.size; simpa using this
  have hrow : w4.rowIs (w2.heap.size + 1) 110 4 (wsc (.pointer (some ⟨hb, 0, none⟩)) 1 (.slice (some ⟨ab, 0, none⟩) T.length T.length) (.map (some w2.heap.size))) := by
    refine World.rowIs.of_block (w := (w2.alloc (.map #[] 0)).alloc (.cells #[.pointer (some ⟨hb, 0, none⟩), .int .i64 1, .slice (some ⟨ab, 0, none⟩) T.length T.length, .map (some w2.heap.size)] 110)) ?_ (k.block _ (by omega))
    have hh := (MapKept.heap_alloc (w2.alloc (.map #[] 0)) (.cells #[.pointer (some ⟨hb, 0, none⟩), .int .i64 1, .slice (some ⟨ab, 0, none⟩) T.length T.length, .map (some w2.heap.size)] 110)).1
    refine ⟨_, by simpa using hh, rfl, fun i hi => ?_⟩
    match i, hi with
    | 0, _ => rfl
    | 1, _ => rfl
    | 2, _ => rfl
    | 3, _ => rfl
  have hmap : MapAt ikey w4 w2.heap.size (ptrs []) := by
    refine MapAt.kept ?_ (k.block _ (by omega))
    exact (MapAt.made ikey w2).alloc _
  have hown : IOwn w4 (.slice (some ⟨ab, 0, none⟩) T.length T.length) (List.replicate T.length 0) := by
    have := IOwn.of_row (w := w4) (g := ab) (l := List.replicate T.length 0) (by
      simp only [List.length_replicate]
      exact (hA.of_block (b2.block ab hAl)).congr (fun i hi => by simp [List.getD, hi])) (by simp only [List.length_replicate]; unfold maxLen; omega)
    simpa using this
  refine ⟨fun b => b = ab ∨ w2.heap.size ≤ b, SH, w2.heap.size + 1, hb, ta, tc, _, w2.heap.size, rfl, fun b hb => ?_, ?_, 1, _, [], ⟨⟨hrow, hown, hmap, fun p hp => by simp at hp, by simp, ?_, by simp, Or.inr (by omega), Or.inr (Nat.le_refl _), fun p hp => by simp at hp, ?_⟩, ?_, ?_, ?_, ?_, ?_⟩, ScrInv.start T, fun p hp => by simp at hp, by omega, by omega⟩
  · have := hB.size; rcases hb with rfl | hb <;> omega
  · exact hB.trans (b2.mono hB.size)
  · simp [foot, Value.ownBlock]
  · intro b hb; simp [foot, Value.ownBlock] at hb; exact Or.inl hb
  · exact (b2.cell (p := ⟨hb, 0, none⟩) hhb.1).trans hH
  · exact hT.kept (fun b hb => b2.block b (hSH b hb).1)
  · intro b hb
    have := hSH b hb
    exact ⟨by omega, fun e => by rcases e with e | e; exact this.2 e; omega⟩
  · exact ⟨by omega, fun e => by rcases e with e | e; exact hhb.2 e; omega⟩
  · intro b hb; exact Or.inr (by omega)
end Go.Proofs.Qxb6602646a
