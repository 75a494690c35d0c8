/-
  (*writerSet).add, walked.
-/
import Derived.Test.Qxb6602646aWs
namespace Go.Proofs.Qxb6602646a
open Go.RowKit

/-- Where the set and its history lie. -/
structure AddPre (Fp SH : Nat → Prop) (w : World) (wb hb : Nat) (ta : Option Addr) (tc : Nat) (T : List PTxn) (rnd : Int) (av : Value) (al : List Int) (mb : Nat) (recs : List (Int × CRec)) : Prop where
  ws : WsAt Fp w wb (.pointer (some ⟨hb, 0, none⟩)) rnd av al mb recs
  hist : w.cell? ⟨hb, 0, none⟩ = some (.slice ta T.length tc)
  txns : TxnsAt SH w ta T
  sh : ∀ b, SH b → b < w.heap.size ∧ ¬ Fp b
  shb : hb < w.heap.size ∧ ¬ Fp hb
  new : ∀ b, w.heap.size ≤ b → Fp b

def LenOk (M : Nat) (t : Int) (recs : List (Int × CRec)) : Prop := ∀ p ∈ recs, p.2.tx.length ≤ M ∨ (p.2.tx.getLast? = some t ∧ p.2.tx.length ≤ M + 1)

def idlePost (w : World) (e : Ending) (w' : World) : Prop := e = .returned (.tuple #[]) ∧ Below w.heap.size w w'
set_option maxHeartbeats 400000 in
set_option maxRecDepth 20000 in
/-- add(-1). -/
theorem add_initial (wb : Nat) (w : World) : Calls Try.prog 53 #[.pointer (some ⟨wb, 0, none⟩), .int .i64 (-1)] w (idlePost w) := by
  go_enter Try.func53, Try.ntmps53
  go_wp2
  go_quiet (fail)
  go_wp2
  go_end0
  exact ⟨rfl, below_drewN (Below.refl _ _) _⟩
set_option maxHeartbeats 400000 in
set_option maxRecDepth 20000 in
/-- add(t), t in the set. -/
theorem add_idle (Fp : Nat → Prop) (wb mb : Nat) (hp av : Value) (rnd : Int) (al : List Int) (recs : List (Int × CRec)) (t : Nat) (w : World) (h : WsAt Fp w wb hp rnd av al mb recs) (ht : t < al.length) (hr : al[t] = rnd) (hlen : al.length ≤ 1048576) :
    Calls Try.prog 53 #[.pointer (some ⟨wb, 0, none⟩), .int .i64 t] w (idlePost w) := by
  have c1 : w.cell? ⟨wb, 1, none⟩ = some (.int .i64 rnd) := h.row.cell (show 1 < 4 by omega)
  have c2 : w.cell? ⟨wb, 2, none⟩ = some av := h.row.cell (show 2 < 4 by omega)
  rcases h.added.form with ⟨_, rfl⟩ | ⟨g, cap, rfl, hlc, hcm, hgl, f, hf, hfi⟩
  · simp at ht
  have d := hf.cell (show t < cap by omega)
  rw [hfi t ht, hr] at d
  have n1 : ((t : Int) == -1) = false := by simp
  have b1 : (t : Int) < (al.length : Int) := by omega
  have b2 : (0 : Int) ≤ (t : Int) := by omega
  have hw := h.row.lt
  clear h hf hfi ht hr hlc hcm
  generalize al.length = n at *
  go_enter Try.func53, Try.ntmps53
  go_wp2
  go_quiet (fail)
  go_wp2
  go_end0
  exact ⟨rfl, below_drewN (Below.refl _ _) _⟩

/-- The loop over the transaction's operations. -/
def AddIn (Fp : Nat → Prop) (w : World) (wb hb : Nat) (rnd : Int) (av : Value) (al' : List Int) (mb : Nat) (recs0 : List (Int × CRec)) (M : Nat) (t : Int) (ops : List POp) (m : Nat) (wr : World) : Prop :=
  ∃ recs, WsAt Fp wr wb (.pointer (some ⟨hb, 0, none⟩)) rnd av al' mb recs ∧ absR recs = (ops.take m).foldl (opAdd rnd t) (absR recs0) ∧ LenOk M t recs ∧ Out Fp w wr
def addPost (Fp : Nat → Prop) (w : World) (wb hb : Nat) (rnd : Int) (av : Value) (al' : List Int) (mb : Nat) (recs0 : List (Int × CRec)) (M : Nat) (t : Int) (ops : List POp) (e : Ending) (w' : World) : Prop :=
  e = .returned (.tuple #[]) ∧ AddIn Fp w wb hb rnd av al' mb recs0 M t ops ops.length w'

theorem upG_upG {κ α : Type} [DecidableEq κ] (A : List (κ × α)) (k : κ) (x y : α) : upG (upG A k x) k y = upG A k y := by
  induction A with
  | nil => simp [upG]
  | cons p A ih =>
    unfold upG
    by_cases h : p.1 = k
    · simp [h, upG]
    · simp [h, upG, ih]
def opc (o : POp) : Nat → Value
  | 0 => .int .u8 o.kind
  | 1 => .int .i64 o.key
  | _ => .int .i64 o.val
/-- What the body's steps hand on: the record of the key, the operation's box. -/
structure Mid (Fp : Nat → Prop) (w : World) (wb hb : Nat) (rnd : Int) (av : Value) (al' : List Int) (mb : Nat) (A : List (Int × (Int × List Int))) (M : Nat) (t : Int) (o : POp) (bx : Nat) (R : CRec) (l1 l2 : List (Int × CRec)) (wc : World) : Prop where
  ws : WsAt Fp wc wb (.pointer (some ⟨hb, 0, none⟩)) rnd av al' mb (l1 ++ (o.key, R) :: l2)
  first : ∀ p ∈ l1, p.1 ≠ o.key
  upd : ∀ x, upG (absR (l1 ++ (o.key, R) :: l2)) o.key x = upG A o.key x
  tx : addTx rnd t (lkG A o.key) = addTx rnd t (some (R.rnd, R.tx))
  len : LenOk M t (l1 ++ (o.key, R) :: l2)
  out : Out Fp w wc
  box : wc.rowIs bx 92 3 (opc o)
theorem mid_hit {Fp : Nat → Prop} {w wc : World} {wb hb : Nat} {rnd : Int} {av : Value} {al' : List Int} {mb : Nat} {recs : List (Int × CRec)} {M : Nat} {t : Int} {o : POp} {bx : Nat} {v : Value}
    (h : WsAt Fp wc wb (.pointer (some ⟨hb, 0, none⟩)) rnd av al' mb recs) (hl : lk (ptrs recs) o.key = some v) (hlen : LenOk M t recs) (hout : Out Fp w wc) (hbox : wc.rowIs bx 92 3 (opc o)) :
    ∃ R l1 l2, v = .pointer (some ⟨R.kb, 0, none⟩) ∧ Mid Fp w wb hb rnd av al' mb (absR recs) M t o bx R l1 l2 wc := by
  obtain ⟨l1, R, l2, rfl, h2, h3⟩ := ptrs_split hl
  exact ⟨R, l1, l2, h2, h, h3, fun _ => rfl, by rw [absR_lk h3], hlen, hout, hbox⟩
theorem mid_miss {Fp : Nat → Prop} {w wB w1 : World} {wb hb : Nat} {rnd : Int} {av : Value} {al' : List Int} {mb : Nat} {recs : List (Int × CRec)} {M : Nat} {t : Int} {o : POp} {bx : Nat}
    (h : WsAt Fp wB wb (.pointer (some ⟨hb, 0, none⟩)) rnd av al' mb recs) (hl : lk (ptrs recs) o.key = none) (hlen : LenOk M t recs) (hout : Out Fp w wB) (hbox : wB.rowIs bx 92 3 (opc o)) (hF : ∀ b, wB.heap.size ≤ b → Fp b)
    (hm : MapAt ikey w1 mb (up (ptrs recs) o.key (.pointer (some ⟨wB.heap.size, 0, none⟩)))) (ht : Turned (wB.alloc (.cells #[.int .i64 0, .slice none 0 0] 108)).drew w1 mb) :
    ∃ R l1 l2, Value.pointer (some ⟨wB.heap.size, 0, none⟩) = .pointer (some ⟨R.kb, 0, none⟩) ∧ Mid Fp w wb hb rnd av al' mb (absR recs) M t o bx R l1 l2 w1 := by
  have hk := ptrs_none hl
  have hB : Below wB.heap.size wB (wB.alloc (.cells #[.int .i64 0, .slice none 0 0] 108)).drew := ((Below.refl _ _).alloc (Nat.le_refl _) _).drew
  have hrow : (wB.alloc (.cells #[.int .i64 0, .slice none 0 0] 108)).drew.rowIs wB.heap.size 108 2 (kwc 0 (.slice none 0 0)) := by
    refine ⟨_, (MapKept.heap_alloc wB _).1, rfl, fun i hi => ?_⟩
    match i, hi with
    | 0, _ => rfl
    | 1, _ => rfl
  have hW := h.fresh hk hF hB hrow hm ht
  have hbW := hbox.of_block (hB.block _ hbox.lt)
  refine ⟨⟨wB.heap.size, 0, .slice none 0 0, []⟩, recs, [], rfl, hW, hk, fun x => ?_, ?_, ?_, ?_, ?_⟩
  · rw [show absR (recs ++ [(o.key, (⟨wB.heap.size, 0, .slice none 0 0, []⟩ : CRec))]) = upG (absR recs) o.key (0, []) from absR_fresh (R := ⟨wB.heap.size, 0, .slice none 0 0, []⟩) hk, upG_upG]
  · rw [absR_lk_none hk]
    unfold addTx
    by_cases e : (0 : Int) = rnd <;> simp [e]
  · intro p hp
    rcases List.mem_append.1 hp with hp | hp
    · exact hlen p hp
    · simp at hp; subst hp; exact .inl (by simp)
  · exact hout.trans ((Out.of_below hB).trans (Out.of_turned ht h.fmb))
  · exact hbW.of_block (ht.block _ (fun e => row_ne_map hbox h.map e))

section
variable {Fp : Nat → Prop} {w wc wd : World} {wb hb : Nat} {rnd : Int} {av : Value} {al' : List Int} {mb : Nat} {A : List (Int × (Int × List Int))} {M : Nat} {t : Int} {o : POp} {bx : Nat} {R : CRec} {l1 l2 : List (Int × CRec)}
theorem Mid.grow (h : Mid Fp w wb hb rnd av al' mb A M t o bx R l1 l2 wc) (k : Below wc.heap.size wc wd) : Mid Fp w wb hb rnd av al' mb A M t o bx R l1 l2 wd :=
  ⟨h.ws.grow k, h.first, h.upd, h.tx, h.len, h.out.trans (Out.of_below k), h.box.of_block (k.block _ h.box.lt)⟩
theorem Mid.own (h : Mid Fp w wb hb rnd av al' mb A M t o bx R l1 l2 wc) : RecAt wc R := h.ws.each (o.key, R) (by simp)
theorem Mid.turn (h : Mid Fp w wb hb rnd av al' mb A M t o bx R l1 l2 wc) (tv' : Value) (tx' : List Int)
    (hr : wd.rowIs R.kb 108 2 (kwc rnd tv')) (ho : IOwn wd tv' tx') (same : ∀ b, b < wc.heap.size → b ≠ R.kb → R.tv.ownBlock ≠ some b → wd.heap[b]? = wc.heap[b]?)
    (hown : tv'.ownBlock = R.tv.ownBlock ∨ ∃ g, tv'.ownBlock = some g ∧ wc.heap.size ≤ g) (hF : ∀ b, wc.heap.size ≤ b → Fp b) (hout : Out Fp wc wd)
    (htx : addTx rnd t (some (R.rnd, R.tx)) = addTx rnd t (some (rnd, tx'))) (hlen : tx'.length ≤ M ∨ (tx'.getLast? = some t ∧ tx'.length ≤ M + 1)) :
    Mid Fp w wb hb rnd av al' mb A M t o bx ⟨R.kb, rnd, tv', tx'⟩ l1 l2 wd := by
  refine ⟨h.ws.upd rnd tv' tx' hr ho same hown hF, h.first, fun x => ?_, h.tx.trans htx, ?_, h.out.trans hout, h.box.of_block (same _ h.box.lt (row_ne_row h.box h.own.1 (by decide)) (fun e => row_ne_own h.box h.own.2 (by decide) e rfl))⟩
  · rw [absR_upd (R := R) (R' := ⟨R.kb, rnd, tv', tx'⟩) h.first, upG_upG]
    exact h.upd x
  · intro p hp
    rcases List.mem_append.1 hp with hp | hp
    · exact h.len p (by simp [hp])
    · rcases List.mem_cons.1 hp with rfl | hp
      · exact hlen
      · exact h.len p (by simp [hp])
/-- The record's own two cells stored. -/
theorem Mid.store (h : Mid Fp w wb hb rnd av al' mb A M t o bx R l1 l2 wc) (tv' : Value) : (wc.setCell ⟨R.kb, 0, none⟩ (.int .i64 rnd)).setCell ⟨R.kb, 1, none⟩ tv' |>.rowIs R.kb 108 2 (kwc rnd tv') := by
  refine ((h.own.1.set 0 (.int .i64 rnd)).set 1 tv').congr (fun i hi => ?_)
  match i, hi with
  | 0, _ => rfl
  | 1, _ => rfl
/-- 'kw.round, kw.txns = w.round, kw.txns[:0]'. -/
theorem Mid.reset (h : Mid Fp w wb hb rnd av al' mb A M t o bx R l1 l2 wc) (hne : R.rnd ≠ rnd) (tv' : Value) (htv : (R.tv = .slice none 0 0 ∧ tv' = .slice none 0 0) ∨ ∃ g n cap, R.tv = .slice (some ⟨g, 0, none⟩) n cap ∧ tv' = .slice (some ⟨g, 0, none⟩) 0 cap) (hF : ∀ b, wc.heap.size ≤ b → Fp b) :
    Mid Fp w wb hb rnd av al' mb A M t o bx ⟨R.kb, rnd, tv', []⟩ l1 l2 ((wc.setCell ⟨R.kb, 0, none⟩ (.int .i64 rnd)).setCell ⟨R.kb, 1, none⟩ tv').drew := by
  have e : ∀ b, b ≠ R.kb → ((wc.setCell ⟨R.kb, 0, none⟩ (.int .i64 rnd)).setCell ⟨R.kb, 1, none⟩ tv').heap[b]? = wc.heap[b]? := fun b hb => by
    rw [Below.heap_setCell _ _ _ _ hb, Below.heap_setCell _ _ _ _ hb]
  have hkb := h.ws.fkb (o.key, R) (by simp)
  have hown : tv'.ownBlock = R.tv.ownBlock := by
    rcases htv with ⟨h1, h2⟩ | ⟨g, n, cap, h1, h2⟩ <;> rw [h1, h2] <;> rfl
  have ho : IOwn ((wc.setCell ⟨R.kb, 0, none⟩ (.int .i64 rnd)).setCell ⟨R.kb, 1, none⟩ tv') tv' [] := by
    rcases htv with ⟨h1, h2⟩ | ⟨g, n, cap, h1, h2⟩
    · rw [h2]; exact IOwn.nil _
    · have hr := h.own.2
      have hgk : g ≠ R.kb := fun q => row_ne_own h.own.1 hr (by decide) (by rw [h1]; rfl) q.symm
      rw [h1] at hr
      rcases hr.2 with ⟨q, _⟩ | ⟨g', cap', cur, q, hb, hh, hn, hm, hs, hk⟩
      · cases q
      · cases q
        exact ⟨rfl, .inr ⟨g, cap, cur, h2, hb, (e g hgk).trans hh, Nat.zero_le _, hm, hs, by simp⟩⟩
  refine (h.turn tv' [] (h.store tv') ho (fun b _ hb _ => e b hb) (.inl hown) hF (((Out.refl Fp wc).setCell hkb _).setCell hkb _) ?_ (.inl (Nat.zero_le _))).grow ⟨rfl, rfl, rfl, Nat.le_refl _, fun _ _ => rfl⟩
  unfold addTx
  simp [hne]
/-- 'kw.txns = append(kw.txns, t)'. -/
theorem Mid.push {tv : Value} {tx : List Int} {kb : Nat} {w1 : World} {g cap H : Nat} (h : Mid Fp w wb hb rnd av al' mb A M t o bx ⟨kb, rnd, tv, tx⟩ l1 l2 wc) (hl : tx.getLast? ≠ some t) (hF : ∀ b, wc.heap.size ≤ b → Fp b) {W : World} (hW : Below wc.heap.size wc W) (hH : wc.heap.size ≤ H)
    (h1 : w1.ownsRow 0 3 1 (.slice (some ⟨g, 0, none⟩) (tx.length + 1) cap) (tx.length + 1) (tx.map (Value.int .i64) ++ [.int .i64 t])) (hg : W.grownBy w1 tv.ownBlock) (hat : tv.ownBlock = some g ∨ g = H) :
    w1.cell? ⟨kb, 1, none⟩ = some tv ∧ w1.frozen? ⟨kb, 1, none⟩ = false ∧
    Mid Fp w wb hb rnd av al' mb A M t o bx ⟨kb, rnd, .slice (some ⟨g, 0, none⟩) (tx.length + 1) cap, tx ++ [t]⟩ l1 l2 (w1.setCell ⟨kb, 1, none⟩ (.slice (some ⟨g, 0, none⟩) (tx.length + 1) cap)) := by
  have hrec := h.own
  have hkb := h.ws.fkb _ (show (o.key, (⟨kb, rnd, tv, tx⟩ : CRec)) ∈ l1 ++ (o.key, ⟨kb, rnd, tv, tx⟩) :: l2 by simp)
  have hlt : kb < wc.heap.size := hrec.1.lt
  have hWr := hrec.1.of_block (hW.block _ hlt)
  have hne : tv.ownBlock ≠ some kb := fun e => row_ne_own hrec.1 hrec.2 (by decide) e rfl
  have hw1 : w1.rowIs kb 108 2 (kwc rnd tv) := hWr.of_block (hg.block _ (Nat.lt_of_lt_of_le hlt hW.size) (fun e => hne e.symm))
  have hgk : g ≠ kb := by
    rcases hat with e | e
    · exact fun q => hne (q ▸ e)
    · omega
  refine ⟨hw1.cell (by omega), hw1.frozen 1, ?_⟩
  have hold : ∀ b, b < wc.heap.size → tv.ownBlock ≠ some b → w1.heap[b]? = wc.heap[b]? := fun b hb hn => (hg.block b (Nat.lt_of_lt_of_le hb hW.size) (fun e => hn e.symm)).trans (hW.block b hb)
  refine h.turn (.slice (some ⟨g, 0, none⟩) (tx.length + 1) cap) (tx ++ [t]) ((hw1.set 1 _).congr (fun i hi => ?_)) ?_ (fun b hb h1 h2 => (Below.heap_setCell _ _ _ _ h1).trans (hold b hb h2)) ?_ hF ?_ ?_ ?_
  · match i, hi with
    | 0, _ => rfl
    | 1, _ => rfl
  · have e : (tx ++ [t]).map (Value.int .i64) = tx.map (Value.int .i64) ++ [.int .i64 t] := by simp
    have ho : IOwn w1 (.slice (some ⟨g, 0, none⟩) (tx.length + 1) cap) (tx ++ [t]) := by
      unfold IOwn
      rw [e, List.length_append]
      exact h1
    exact ho.kept (fun g' hg' => by cases hg'; exact Below.heap_setCell _ _ _ _ hgk)
  · rcases hat with e | e
    · exact .inl e.symm
    · exact .inr ⟨g, rfl, by omega⟩
  · refine (Out.of_below hW).trans (Out.setCell (Out.of_grown hg (fun g' hg' => ?_)) hkb _)
    exact h.ws.frow g' (mem_foot_rec (p := (o.key, ⟨kb, rnd, tv, tx⟩)) (by simp) hg')
  · unfold addTx
    simp [hl]
  · rcases h.len (o.key, ⟨kb, rnd, tv, tx⟩) (by simp) with q | ⟨q, _⟩
    · exact .inr ⟨by simp, by simpa using q⟩
    · exact absurd q hl
theorem addTx_new {rnd t : Int} {tx : List Int} (h : tx.getLast? ≠ some t) : addTx rnd t (some (rnd, tx)) = tx ++ [t] := by unfold addTx; simp [h]
theorem addTx_old {rnd t : Int} {tx : List Int} (h : tx.getLast? = some t) : addTx rnd t (some (rnd, tx)) = tx := by unfold addTx; simp [h]
/-- THE STEP's END: the key's list is as the plain model says. -/
theorem Mid.done {recs0 : List (Int × CRec)} {ops : List POp} {m : Nat} (h : Mid Fp w wb hb rnd av al' mb A M t o bx R l1 l2 wc) (hk : o.kind = 1) (hr : R.rnd = rnd) (htx : addTx rnd t (lkG A o.key) = R.tx)
    (hA : (ops.take (m + 1)).foldl (opAdd rnd t) (absR recs0) = opAdd rnd t A o) : AddIn Fp w wb hb rnd av al' mb recs0 M t ops (m + 1) wc := by
  refine ⟨_, h.ws, ?_, h.len, h.out⟩
  rw [hA]
  unfold opAdd
  rw [if_pos hk, htx, ← hr, ← h.upd]
  exact (absR_upd (R := R) (R' := R) h.first)
end

set_option maxHeartbeats 1000000 in
set_option maxRecDepth 20000 in
theorem add_any (Fp SH : Nat → Prop) (w : World) (wb hb : Nat) (ta : Option Addr) (tc : Nat) (T : List PTxn) (rnd : Int) (av : Value) (al : List Int) (mb : Nat) (recs : List (Int × CRec)) (t M : Nat)
    (h : AddPre Fp SH w wb hb ta tc T rnd av al mb recs) (ht : t < al.length) (hr : al[t] ≠ rnd) (htT : t < T.length) (hal : al.length ≤ 1048576) (hTl : T.length ≤ 1048576) (hol : T[t].ops.length ≤ 1048576) (hM : M ≤ 2097152) (hL : ∀ p ∈ recs, p.2.tx.length ≤ M) :
    Calls Try.prog 53 #[.pointer (some ⟨wb, 0, none⟩), .int .i64 t] w (addPost Fp w wb hb rnd av (al.set t rnd) mb recs M t T[t].ops) := by
  obtain ⟨hws, hhist, htx, hsh, hshb, hnew⟩ := h
  have c1 : w.cell? ⟨wb, 1, none⟩ = some (.int .i64 rnd) := hws.row.cell (show 1 < 4 by omega)
  have c2 : w.cell? ⟨wb, 2, none⟩ = some av := hws.row.cell (show 2 < 4 by omega)
  have c0 : w.cell? ⟨wb, 0, none⟩ = some (.pointer (some ⟨hb, 0, none⟩)) := hws.row.cell (show 0 < 4 by omega)
  rcases hws.added.form with ⟨_, rfl⟩ | ⟨g, cap, rfl, hlc, hcm, hgl, f, hf, hfi⟩
  · simp at ht
  have d := hf.cell (show t < cap by omega)
  rw [hfi t ht] at d
  have dz := hf.frozen t
  have n1 : ((t : Int) == -1) = false := by simp
  have n2 : (al[t] == rnd) = false := by simpa using hr
  have b1 : (t : Int) < (al.length : Int) := by omega
  have b2 : (0 : Int) ≤ (t : Int) := by omega
  have b3 : (t : Int) < (T.length : Int) := by omega
  have hw := hws.row.lt
  have hgw : wb ≠ g := row_ne_own hws.row hws.added (by decide) rfl
  have hgb : hb ≠ g := fun e => hshb.2 (e ▸ hws.frow g (mem_foot_av rfl))
  -- the history, behind the store
  have hW1 := hws.setAdded (t := t) rfl rnd
  obtain ⟨b, off, rfl, hbS, hx⟩ := htx (by omega)
  obtain ⟨_, _, a', c', g3, g4⟩ := hx t htT
  have hbg : b ≠ g := fun e => (hsh b hbS).2 (e ▸ hws.frow g (mem_foot_av rfl))
  have hbl := (hsh b hbS).1
  have HOut1 := hide ((Out.refl Fp w).setCell (a := ⟨g, t, none⟩) (hws.frow g (mem_foot_av rfl)) (.int .i64 rnd))
  have HW1 := hide hW1
  have HG := hide g4
  have HSH := hide hsh
  have HNEW := hide hnew
  have HL := hide hL
  obtain ⟨tt, htt⟩ : ∃ tt, tt = T[t] := ⟨_, rfl⟩
  rw [← htt] at g3 HG hol ⊢
  generalize al[t] = x0 at d n2 hr
  clear hws htx hsh hnew hf hfi ht hr hlc hcm hW1 hx g4 htt hL
  go_enter Try.func53, Try.ntmps53
  go_wp2
  go_quiet (fail)
  go_wp2
  go_big_region
  go_wp2
  go_loopw [46] (fun i wr => ∃ m : Nat, m ≤ tt.ops.length ∧ i = .int .i64 m ∧ AddIn Fp w wb hb rnd (.slice (some ⟨g, 0, none⟩) al.length cap) (al.set t rnd) mb recs M t tt.ops m wr) (fun i _ => tt.ops.length - (intOf i).toNat)
  case atStart => exact ⟨0, Nat.zero_le _, rfl, recs, HW1.out.grow ⟨rfl, rfl, rfl, Nat.le_refl _, fun _ _ => rfl⟩, rfl, fun p hp => .inl (HL.out p hp), HOut1.out.trans (Out.of_below ⟨rfl, rfl, rfl, Nat.le_refl _, fun _ _ => rfl⟩)⟩
  case round =>
    obtain ⟨m, hm, rfl, recs1, hws, habs, hlen, hout⟩ := hrel
    have hsz := hout.size
    have HW := hide hws
    have HAB := hide habs
    have HLN := hide hlen
    have HOUT := hide hout
    clear habs hlen
    clear c1 c2 c0 d dz g3
    by_cases hml : m < tt.ops.length
    · obtain ⟨b', off', rfl, hbS', hx'⟩ := HG.out (by omega)
      obtain ⟨hbl', hbF'⟩ := HSH.out b' hbS'
      obtain ⟨p1, p2, p3⟩ := hx' m hml
      have q1 := (hout.cell (o := off' + m * 3) hbl' hbF').trans p1
      have q2 := (hout.cell (o := off' + m * 3 + 1) hbl' hbF').trans p2
      have q3 := (hout.cell (o := off' + m * 3 + 2) hbl' hbF').trans p3
      have HSTEP := hide (foldl_snoc (opAdd rnd t) (absR recs) tt.ops m hml)
      obtain ⟨o, ho⟩ : ∃ o, o = tt.ops[m] := ⟨_, rfl⟩
      rw [← ho] at q1 q2 q3 HSTEP
      clear p1 p2 p3 hx' ho hout hws
      by_cases hkd : o.kind = 1
      · have hkb : (o.kind != 1) = false := by simp [hkd]
        have HK := hide hkd
        clear hkd
        go_upto_region 6 with fail
        have hB0 : Below wr.heap.size wr (wr.alloc (.cells #[.int .u8 o.kind, .int .i64 o.key, .int .i64 o.val] 92)) := (Below.refl _ _).alloc (Nat.le_refl _) _
        have hWA := HW.out.grow hB0
        have hbA : (wr.alloc (.cells #[.int .u8 o.kind, .int .i64 o.key, .int .i64 o.val] 92)).rowIs wr.heap.size 92 3 (opc o) := by
          refine ⟨_, (MapKept.heap_alloc wr _).1, rfl, fun i hi => ?_⟩
          match i, hi with
          | 0, _ => rfl
          | 1, _ => rfl
          | 2, _ => rfl
        have hoA := HOUT.out.trans (Out.of_below hB0)
        clear q1 q2 q3 hB0 HW
        obtain ⟨bx, hbx⟩ : ∃ bx, bx = wr.heap.size := ⟨_, rfl⟩
        obtain ⟨wA, hwA⟩ : ∃ wA, wA = wr.alloc (.cells #[.int .u8 o.kind, .int .i64 o.key, .int .i64 o.val] 92) := ⟨_, rfl⟩
        rw [← hwA] at hWA hbA hoA
        rw [← hwA]
        rw [← hbx] at hbA
        have HBX := hide hbx
        have k1 : wA.cell? ⟨wb, 3, none⟩ = some (.map (some mb)) := hWA.row.cell (show 3 < 4 by omega)
        have k2 : wA.cell? ⟨wr.heap.size, 1, none⟩ = some (.int .i64 o.key) := hbx ▸ hbA.cell (show 1 < 3 by omega)
        have k3 := hWA.row.lt
        have k4 : wr.heap.size < wA.heap.size := hbx ▸ hbA.lt
        have HWA := hide hWA
        have HBA := hide hbA
        have HOA := hide hoA
        have hszA := hoA.size
        clear hwA hbx hWA hbA hoA hsz
        have xc := @Ext.cell wA
        have xn := Ext.some wA
        obtain ⟨pv, hpv⟩ : ∃ pv : Option Addr, (lk (ptrs recs1) o.key).getD (.pointer none) = .pointer pv := by
          cases hlk : lk (ptrs recs1) o.key with
          | none => exact ⟨none, rfl⟩
          | some v => obtain ⟨_, R, _, _, h2, _⟩ := ptrs_split hlk; exact ⟨_, h2⟩
        have hlu : ∀ p : Ext wA, (Instr.lookup 105 (.map (some mb)) (.int .i64 o.key) false).run Try.prog p.val = .ok (.pointer pv) p.val := fun p => by
          have h := run_lookup_at (int_enc Try.underlying2) Try.underlying105 (HWA.out.map.kept (p.prop.block mb HWA.out.map.lt)) (.pointer none) (by kernel_rfl) o.key false
          rw [if_neg (by simp), hpv] at h
          exact h
        have HPV := hide hpv
        clear hpv
        refine wp_region_ext (by kernel_rfl) (by kernel_rfl) ?_
        repeat (go_big_quiet_step (fail))
        refine wpQuiet_nil ?_
        rintro _ ⟨px, rfl⟩
        have HWB := hide (HWA.out.grow px.prop)
        have HBB := hide (HBA.out.of_block (px.prop.block _ HBA.out.lt))
        have HOB := hide (HOA.out.trans (Out.of_below px.prop))
        have hszB : w.heap.size ≤ px.val.heap.size := HOB.out.size
        have j1 := (xc px wb 3 k3).trans k1
        have j2 := (xc px wr.heap.size 1 k4).trans k2
        obtain ⟨wB, hwB⟩ : ∃ wB, wB = px.val := ⟨_, rfl⟩
        rw [← hwB] at HWB HBB HOB hszB j1 j2
        rw [← hwB]
        clear hwB px xc xn hlu k1 k2 k3 k4 HWA HBA HOA hszA
        go_upto_if 61 with fail
        go_cut [6] from 48 to 124 (fun v wc => ∃ R l1 l2, v = .pointer (some ⟨R.kb, 0, none⟩) ∧ Mid Fp w wb hb rnd (.slice (some ⟨g, 0, none⟩) al.length cap) (al.set t rnd) mb (absR recs1) M t o bx R l1 l2 wc)
        case first =>
          cases hlk : lk (ptrs recs1) o.key with
          | none =>
            have e0 : pv = none := by
              have := HPV.out
              rw [hlk] at this
              cases this
              rfl
            subst e0
            have HLK := hide hlk
            have j3 := cal j1 (.cells #[.int .i64 0, .slice none 0 0] 108)
            have j4 := cal j2 (.cells #[.int .i64 0, .slice none 0 0] 108)
            obtain ⟨w1, hrun, hm1, ht1⟩ := run_update_at (w := (wB.alloc (.cells #[.int .i64 0, .slice none 0 0] 108)).drew) (int_enc Try.underlying2) Try.underlying105 (HWB.out.map.alloc _) o.key (.pointer (some ⟨wB.heap.size, 0, none⟩))
            have hrun : (Instr.mapUpdate 105 (.map (some mb)) (.int .i64 o.key) (.pointer (some ⟨wB.heap.size, 0, none⟩))).run Try.prog (wB.alloc (.cells #[.int .i64 0, .slice none 0 0] 108)).drew = .ok () w1 := hrun
            have HM1 := hide hm1
            have HT1 := hide ht1
            clear hlk hm1 ht1 j1 j2
            go_wp2
            go_big_region
            go_wp2
            go_meet
            case rel => exact mid_miss HWB.out HLK.out HLN.out HOB.out HBB.out (fun b hb => HNEW.out b (Nat.le_trans hszB hb)) HM1.out HT1.out
          | some v =>
            obtain ⟨R, l1, l2, h1, h2⟩ := mid_hit HWB.out hlk HLN.out HOB.out HBB.out
            have e0 : pv = some ⟨R.kb, 0, none⟩ := by
              have := HPV.out
              rw [hlk, h1] at this
              cases this
              rfl
            subst e0
            have HR := hide h2
            clear hlk h1 h2
            go_wp2
            go_meet
            case rel => exact ⟨R, l1, l2, rfl, HR.out⟩
        case rest =>
          obtain ⟨R, l1, l2, rfl, hMid⟩ := hcut
          have k1 : wc.cell? ⟨wb, 1, none⟩ = some (.int .i64 rnd) := hMid.ws.row.cell (show 1 < 4 by omega)
          have k2 : wc.cell? ⟨R.kb, 0, none⟩ = some (.int .i64 R.rnd) := hMid.own.1.cell (show 0 < 2 by omega)
          have k3 := hMid.ws.row.lt
          have k4 := hMid.own.1.lt
          have hszc : w.heap.size ≤ wc.heap.size := hMid.out.size
          have HMid := hide hMid
          have xc := @Ext.cell wc
          have xn := Ext.some wc
          have hrb : ∃ rb : Bool, (R.rnd != rnd) = rb := ⟨_, rfl⟩
          obtain ⟨rb, hrb⟩ := hrb
          clear hMid j1 j2 HWB HBB HOB hszB HPV HLN HOUT
          go_wp2
          refine wp_region_ext (by kernel_rfl) (by kernel_rfl) ?_
          repeat (go_big_quiet_step (fail))
          refine wpQuiet_nil ?_
          rintro _ ⟨px, rfl⟩
          have HMd := hide (HMid.out.grow px.prop)
          have hszd : w.heap.size ≤ px.val.heap.size := HMd.out.out.size
          obtain ⟨wd, hwd⟩ : ∃ wd, wd = px.val := ⟨_, rfl⟩
          rw [← hwd] at HMd hszd
          rw [← hwd]
          have HRB := hide hrb
          clear hwd px xc xn k1 k2 k3 k4 HMid hszc hrb
          go_upto_if 79 with fail
          go_cut [] from 48 to 124 (fun we => ∃ tv tx, Mid Fp w wb hb rnd (.slice (some ⟨g, 0, none⟩) al.length cap) (al.set t rnd) mb (absR recs1) M t o bx ⟨R.kb, rnd, tv, tx⟩ l1 l2 we)
          case first =>
            cases rb with
            | false =>
              have e0 : R.rnd = rnd := by simpa using HRB.out
              obtain ⟨kb, rr, tv, tx⟩ := R
              simp only at e0
              subst e0
              go_wp2
              go_meet
              case rel => exact ⟨tv, tx, HMd.out⟩
            | true =>
              have e0 : R.rnd ≠ rnd := by simpa using HRB.out
              have HNE := hide e0
              clear e0
              have k1 : wd.cell? ⟨wb, 1, none⟩ = some (.int .i64 rnd) := HMd.out.ws.row.cell (show 1 < 4 by omega)
              have k2 : wd.cell? ⟨R.kb, 0, none⟩ = some (.int .i64 R.rnd) := HMd.out.own.1.cell (show 0 < 2 by omega)
              have k3 : wd.cell? ⟨R.kb, 1, none⟩ = some R.tv := HMd.out.own.1.cell (show 1 < 2 by omega)
              have z1 := HMd.out.own.1.frozen 0
              have z2 := HMd.out.own.1.frozen 1
              have nb : wb ≠ R.kb := row_ne_row HMd.out.ws.row HMd.out.own.1 (by decide)
              rcases HMd.out.own.2.form with ⟨htv, _⟩ | ⟨g2, cap2, htv, hlc2, hcm2, _⟩
              · rw [htv] at k3
                have HTV := hide htv
                clear htv
                go_wp2
                go_big_region
                go_wp2
                go_meet
                case rel => exact ⟨_, _, HMd.out.reset HNE.out (.slice none 0 0) (.inl ⟨HTV.out, rfl⟩) (fun b hb => HNEW.out b (Nat.le_trans hszd hb))⟩
              · rw [htv] at k3
                have HTV := hide htv
                clear htv
                go_wp2
                go_big_region
                go_wp2
                go_meet
                case rel => exact ⟨_, _, HMd.out.reset HNE.out (.slice (some ⟨g2, 0, none⟩) 0 cap2) (.inr ⟨g2, _, cap2, HTV.out, rfl⟩) (fun b hb => HNEW.out b (Nat.le_trans hszd hb))⟩
          case rest =>
            obtain ⟨tv, tx, hM2⟩ := hcut
            have k1 : wc.cell? ⟨R.kb, 1, none⟩ = some tv := hM2.own.1.cell (show 1 < 2 by omega)
            have hszc : w.heap.size ≤ wc.heap.size := hM2.out.size
            have htl : tx.length ≤ 2097153 := by
              rcases hM2.len (o.key, ⟨R.kb, rnd, tv, tx⟩) (by simp) with q | ⟨_, q⟩
              · have q : tx.length ≤ M := q; omega
              · have q : tx.length ≤ M + 1 := q; omega
            have HM2 := hide hM2
            have kl := hM2.own.1.lt
            have HMAP := hide hM2.tx
            obtain ⟨i0, hi, hz0, hz1, hz2⟩ := info_parts info3
            have ka := cal k1 (.cells #[.int .i64 (t : Int)] 3)
            clear HMd hszd HRB hM2
            have HA : Hid ((tt.ops.take (m + 1)).foldl (opAdd rnd t) (absR recs) = opAdd rnd t (absR recs1) o) := by
              show _ = _
              rw [HSTEP.out, ← HAB.out]
            by_cases hlast : tx.getLast? = some (t : Int)
            · have HLa := hide hlast
              rcases HM2.out.own.2.form with ⟨_, htx0⟩ | ⟨g2, cap2, htv, hlc2', hcm2, hg2, f2, hf2, hfi2'⟩
              · have htx0 : tx = [] := htx0
                rw [htx0] at hlast
                cases hlast
              · have htv : tv = .slice (some ⟨g2, 0, none⟩) tx.length cap2 := htv
                have hlc2 : tx.length ≤ cap2 := hlc2'
                have hfi2 : ∀ i (hi : i < tx.length), f2 i = .int .i64 tx[i] := hfi2'
                subst htv
                have hpos : 0 < tx.length := by
                  cases tx with
                  | nil => cases hlast
                  | cons a l => simp
                have hx : tx[tx.length - 1] = (t : Int) := by
                  rw [List.getLast?_eq_getElem?, List.getElem?_eq_getElem (Nat.sub_lt hpos Nat.one_pos)] at hlast
                  exact Option.some.inj hlast
                have hlt9 : tx.length - 1 < tx.length := Nat.sub_lt hpos Nat.one_pos
                have k2 := hf2.cell (Nat.lt_of_lt_of_le hlt9 hlc2)
                have e2 : f2 (tx.length - 1) = .int .i64 tx[tx.length - 1] := hfi2 (tx.length - 1) hlt9
                rw [e2, hx] at k2
                have n0 : ((tx.length : Int) == 0) = false := by
                  rw [beq_eq_false_iff_ne]; omega
                clear hlast hf2 hfi2 hfi2' hlc2' hcm2 hx e2 ka
                generalize hnn : tx.length = nn at *
                go_wp2
                go_roundw
                case rel => exact ⟨m + 1, by omega, by go_num, HM2.out.done HK.out rfl (HMAP.out.trans (addTx_old HLa.out)) HA.out⟩
                case measure => simp [intOf]; omega
            · have HLa := hide hlast
              rcases HM2.out.own.2.form with ⟨htv, htx0⟩ | ⟨g2, cap2, htv, hlc2', hcm2, hg2, f2, hf2, hfi2'⟩
              · have htv : tv = .slice none 0 0 := htv
                have htx0 : tx = [] := htx0
                subst htv htx0
                have HOwn := hide (HM2.out.own.2)
                clear hlast
                go_wp2_with (at_builtin; refine wpList_append_lies _ rfl _ _ 42 rfl 0 3 i0 (.int .i64 0) 1 8 Try.underlying42 hi hz0 hz1 hz2 rfl (by decide) (.slice none 0 0) 0 [] rfl (World.ownsRow_nil _ _ _ _) ⟨wc.heap.size, 0, none⟩ 1 1 [.int .i64 (t : Int)] rfl rfl (by exact cell_one_new _ _ _) (ints_oneCell .i64 [(t : Int)]) (by omega) (by unfold maxLen; omega) (by omega) (Nat.zero_le _) (wc.heap.size + 1) (by simp) ?_; intro g3 cap3 w1 hown1 hgrow1 hat1 hlt1; obtain ⟨y1, y2, y3⟩ := HM2.out.push HLa.out (fun b hb => HNEW.out b (Nat.le_trans hszc hb)) ((Below.refl _ _).alloc (Nat.le_refl _) _) (Nat.le_succ _) hown1 hgrow1 hat1; have HY := hide y3; clear y3 hown1 hgrow1 hat1 hlt1)
                go_roundw
                case rel => exact ⟨m + 1, by omega, by go_num, HY.out.done HK.out rfl (HMAP.out.trans (addTx_new HLa.out)) HA.out⟩
                case measure => simp [intOf]; omega
              · have htv : tv = .slice (some ⟨g2, 0, none⟩) tx.length cap2 := htv
                have hlc2 : tx.length ≤ cap2 := hlc2'
                have hfi2 : ∀ i (hi : i < tx.length), f2 i = .int .i64 tx[i] := hfi2'
                subst htv
                have HOwn := hide (HM2.out.own.2)
                by_cases hpos : 0 < tx.length
                · have hx : (tx[tx.length - 1] != (t : Int)) = true := by
                    rw [List.getLast?_eq_getElem?, List.getElem?_eq_getElem (Nat.sub_lt hpos Nat.one_pos)] at hlast
                    simpa using hlast
                  have hlt9 : tx.length - 1 < tx.length := Nat.sub_lt hpos Nat.one_pos
                  have k2 := hf2.cell (Nat.lt_of_lt_of_le hlt9 hlc2)
                  have e2 : f2 (tx.length - 1) = .int .i64 tx[tx.length - 1] := hfi2 (tx.length - 1) hlt9
                  rw [e2] at k2
                  generalize tx[tx.length - 1] = xl at k2 hx
                  have n0 : ((tx.length : Int) == 0) = false := by
                    rw [beq_eq_false_iff_ne]; omega
                  clear hlast hf2 hfi2 hfi2' hlc2 hlc2' hcm2 e2
                  go_wp2_with (at_builtin; refine wpList_append_lies _ rfl _ _ 42 rfl 0 3 i0 (.int .i64 0) 1 8 Try.underlying42 hi hz0 hz1 hz2 rfl (by decide) (.slice (some ⟨g2, 0, none⟩) tx.length cap2) tx.length (tx.map (Value.int .i64)) rfl (by exact World.ownsRow.alloc HOwn.out _) ⟨wc.heap.size, 0, none⟩ 1 1 [.int .i64 (t : Int)] rfl rfl (by exact cell_one_new _ _ _) (ints_oneCell .i64 [(t : Int)]) (by omega) (by unfold maxLen; omega) (by omega) (Nat.zero_le _) (wc.heap.size + 1) (by simp) ?_; intro g3 cap3 w1 hown1 hgrow1 hat1 hlt1; obtain ⟨y1, y2, y3⟩ := HM2.out.push HLa.out (fun b hb => HNEW.out b (Nat.le_trans hszc hb)) ((Below.refl _ _).alloc (Nat.le_refl _) _) (Nat.le_succ _) hown1 hgrow1 hat1; have HY := hide y3; clear y3 hown1 hgrow1 hat1 hlt1)
                  go_roundw
                  case rel => exact ⟨m + 1, by omega, by go_num, HY.out.done HK.out rfl (HMAP.out.trans (addTx_new HLa.out)) HA.out⟩
                  case measure => simp [intOf]; omega
                · have n0 : ((tx.length : Int) == 0) = true := by
                    rw [beq_iff_eq]; omega
                  clear hlast hf2 hfi2 hfi2' hlc2 hlc2' hcm2
                  go_wp2_with (at_builtin; refine wpList_append_lies _ rfl _ _ 42 rfl 0 3 i0 (.int .i64 0) 1 8 Try.underlying42 hi hz0 hz1 hz2 rfl (by decide) (.slice (some ⟨g2, 0, none⟩) tx.length cap2) tx.length (tx.map (Value.int .i64)) rfl (by exact World.ownsRow.alloc HOwn.out _) ⟨wc.heap.size, 0, none⟩ 1 1 [.int .i64 (t : Int)] rfl rfl (by exact cell_one_new _ _ _) (ints_oneCell .i64 [(t : Int)]) (by omega) (by unfold maxLen; omega) (by omega) (Nat.zero_le _) (wc.heap.size + 1) (by simp) ?_; intro g3 cap3 w1 hown1 hgrow1 hat1 hlt1; obtain ⟨y1, y2, y3⟩ := HM2.out.push HLa.out (fun b hb => HNEW.out b (Nat.le_trans hszc hb)) ((Below.refl _ _).alloc (Nat.le_refl _) _) (Nat.le_succ _) hown1 hgrow1 hat1; have HY := hide y3; clear y3 hown1 hgrow1 hat1 hlt1)
                  go_roundw
                  case rel => exact ⟨m + 1, by omega, by go_num, HY.out.done HK.out rfl (HMAP.out.trans (addTx_new HLa.out)) HA.out⟩
                  case measure => simp [intOf]; omega
      · have hkb : (o.kind != 1) = true := by simp [hkd]
        have HK := hide hkd
        clear hkd
        go_wp2
        go_roundw
        case rel =>
          have hB0 : Below wr.heap.size wr (wr.alloc (.cells #[.int .u8 o.kind, .int .i64 o.key, .int .i64 o.val] 92)) := (Below.refl _ _).alloc (Nat.le_refl _) _
          refine ⟨m + 1, by omega, by go_num, recs1, HW.out.grow hB0, ?_, HLN.out, HOUT.out.trans (Out.of_below hB0)⟩
          rw [HSTEP.out, ← HAB.out]
          unfold opAdd
          rw [if_neg HK.out]
        case measure => simp [intOf]; omega
    · clear hws hout
      go_wp2
      go_end0
      refine ⟨rfl, recs1, HW.out, ?_, HLN.out, HOUT.out⟩
      have e : m = tt.ops.length := by omega
      rw [← e]
      exact HAB.out
end Go.Proofs.Qxb6602646a
