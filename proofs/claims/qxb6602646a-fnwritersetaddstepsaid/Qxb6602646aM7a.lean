/-
  FnWriterSetAddStep: the set as the law makes it, and behind one add.
-/
import Derived.Test.Qxb6602646aNew
import Derived.Test.Qxb6602646aFitA
import Derived.Test.Qxb6602646aAddLaw
import Derived.Test.Qxb6602646aM8
namespace Go.Proofs.Qxb6602646a
open Go.RowKit

/-- The records that the arguments give. -/
def zList (keys rs : List Int) (tvs : List Value) (LL : List (List Int)) : List ZI := (List.range keys.length).map fun i => ⟨keys.getD i 0, rs.getD i 0, tvs.getD i (.bool false), LL.getD i []⟩
def aList (keys rs : List Int) (LL : List (List Int)) : List (Int × (Int × List Int)) := (List.range keys.length).map fun i => (keys.getD i 0, (rs.getD i 0, LL.getD i []))
theorem zList_len (keys rs : List Int) (tvs : List Value) (LL : List (List Int)) : (zList keys rs tvs LL).length = keys.length := by simp [zList]
theorem aList_len (keys rs : List Int) (LL : List (List Int)) : (aList keys rs LL).length = keys.length := by simp [aList]
theorem range_getD {α : Type} (l : List α) (d : α) (n : Nat) (h : l.length = n) : ((List.range n).map fun i => l.getD i d) = l := by
  subst h
  apply List.ext_getElem
  · simp
  · intro i h1 h2
    simp [h2]
theorem zList_key (keys rs : List Int) (tvs : List Value) (LL : List (List Int)) : ((zList keys rs tvs LL).map fun z => z.key) = keys := by
  unfold zList
  rw [List.map_map]
  exact range_getD keys 0 _ rfl
theorem zList_rnd (keys rs : List Int) (tvs : List Value) (LL : List (List Int)) (h : rs.length = keys.length) : ((zList keys rs tvs LL).map fun z => z.rnd) = rs := by
  unfold zList
  rw [List.map_map]
  exact range_getD rs 0 _ h
theorem zList_tv (keys rs : List Int) (tvs : List Value) (LL : List (List Int)) (h : tvs.length = keys.length) : ((zList keys rs tvs LL).map fun z => z.tv) = tvs := by
  unfold zList
  rw [List.map_map]
  exact range_getD tvs _ _ h
theorem zList_at (keys rs : List Int) (tvs : List Value) (LL : List (List Int)) (i : Nat) (h : i < (zList keys rs tvs LL).length) : (zList keys rs tvs LL)[i] = ⟨keys.getD i 0, rs.getD i 0, tvs.getD i (.bool false), LL.getD i []⟩ := by simp [zList]
theorem aList_keys (keys rs : List Int) (LL : List (List Int)) : ((aList keys rs LL).map fun p => p.1) = keys := by
  unfold aList
  rw [List.map_map]
  exact range_getD keys 0 _ rfl
theorem lkG_nodup {α : Type} (M : List (Int × α)) (h : (M.map fun p => p.1).Nodup) (i : Nat) (hi : i < M.length) : lkG M (M[i]).1 = some (M[i]).2 := by
  induction M generalizing i with
  | nil => simp at hi
  | cons p M ih =>
    rw [List.map_cons, List.nodup_cons] at h
    cases i with
    | zero => simp [lkG]
    | succ i =>
      have hi' : i < M.length := by simpa using hi
      have hne : p.1 ≠ (M[i]).1 := fun e => h.1 (e ▸ List.mem_map.2 ⟨M[i], List.getElem_mem _, rfl⟩)
      simp only [List.getElem_cons_succ, lkG]
      rw [if_neg hne]
      exact ih h.2 i hi'
theorem aList_lk (keys rs : List Int) (LL : List (List Int)) (hnd : keys.Nodup) (i : Nat) (hi : i < keys.length) (hr : i < rs.length) (hl : i < LL.length) : lkG (aList keys rs LL) keys[i] = some (rs[i], LL[i]) := by
  have h := lkG_nodup (aList keys rs LL) (by rw [aList_keys]; exact hnd) i (by rw [aList_len]; exact hi)
  have e : (aList keys rs LL)[i]'(by rw [aList_len]; exact hi) = (keys[i], (rs[i], LL[i])) := by simp [aList, hi, hr, hl]
  rw [e] at h
  exact h
theorem lkG_none_of {α : Type} (M : List (Int × α)) (k : Int) (h : k ∉ M.map (fun p => p.1)) : lkG M k = none := by
  induction M with
  | nil => rfl
  | cons p M ih =>
    rw [List.map_cons, List.mem_cons, not_or] at h
    unfold lkG
    rw [if_neg (fun e => h.1 e.symm), ih h.2]

theorem setupA {w1 w2 w6 w7 wr : World} {ta : Option Addr} {tc : Nat} {vS : Value} {T : List PTxn} {av : Value} {al keys rs : List Int} {tvs : List Value} {LL : List (List Int)} {recs : List (Int × CRec)} {rnd : Int}
    (hH : w2.rowIs w1.heap.size 88 3 (hcell (.slice ta T.length tc) vS)) (hT : TxnsAt (fun b => w1.heap.size < b ∧ b < w2.heap.size) w2 ta T) (hB : Below w2.heap.size w2 w6) (hav : IOwn w6 av al) (hav2 : ∀ b, av.ownBlock = some b → w2.heap.size ≤ b)
    (havn : ∀ b, av.ownBlock = some b → b ∉ obs tvs) (hOL : OwnL w2.heap.size w6 tvs LL) (hll : LL.length = keys.length) (hnd : keys.Nodup) (hN : Nw w6 (zList keys rs tvs LL) (zList keys rs tvs LL).length recs wr)
    (he : w7 = wr.alloc (.cells #[.pointer (some ⟨w1.heap.size, 0, none⟩), .int .i64 rnd, av, .map (some w6.heap.size)] 110)) :
    AddPre (fun b => w2.heap.size ≤ b) (fun b => w1.heap.size < b ∧ b < w2.heap.size) w7 wr.heap.size w1.heap.size ta tc T rnd av al w6.heap.size recs ∧ absR recs = aList keys rs LL := by
  subst he
  have htl : tvs.length = keys.length := by rw [hOL.len]; exact hll
  have hz : recs.map zOf = zList keys rs tvs LL := by have := hN.is; rwa [List.take_length] at this
  have hb7 : Below wr.heap.size wr (wr.alloc (.cells #[.pointer (some ⟨w1.heap.size, 0, none⟩), .int .i64 rnd, av, .map (some w6.heap.size)] 110)) := (Below.refl _ _).alloc (Nat.le_refl _) _
  have hN7 := hN.grow hb7
  have hb6 : Below w6.heap.size w6 (wr.alloc (.cells #[.pointer (some ⟨w1.heap.size, 0, none⟩), .int .i64 rnd, av, .map (some w6.heap.size)] 110)) := hN7.bel
  have hs26 := hB.size
  have hs6r := hN.bel.size
  have etv : (recs.map fun p => p.2.tv) = tvs := by
    have := congrArg (List.map fun z => z.tv) hz
    rw [List.map_map, zList_tv keys rs tvs LL htl] at this
    exact this
  have hat : ∀ p ∈ recs, ∃ i, ∃ (h1 : i < tvs.length) (h2 : i < LL.length), p.2.tv = tvs[i] ∧ p.2.tx = LL[i] := fun p hp => by
    obtain ⟨i, hi, rfl⟩ := List.getElem_of_mem hp
    have hl : recs.length = keys.length := by
      have := congrArg List.length hz
      rwa [List.length_map, zList_len] at this
    have e1 : (recs.map zOf)[i]'(by simpa using hi) = (zList keys rs tvs LL)[i]'(by rw [zList_len]; omega) := by simp only [hz]
    rw [List.getElem_map, zList_at] at e1
    refine ⟨i, by omega, by omega, ?_, ?_⟩
    · have := congrArg ZI.tv e1
      rw [show (zOf recs[i]).tv = recs[i].2.tv from rfl] at this
      rw [this]; simp [show i < tvs.length by omega]
    · have := congrArg ZI.tx e1
      rw [show (zOf recs[i]).tx = recs[i].2.tx from rfl] at this
      rw [this]; simp [show i < LL.length by omega]
  have efoot : foot av recs = av.ownBlock.toList ++ obs tvs := by
    unfold foot obs
    rw [← etv, List.flatMap_map]
  have hrow : (wr.alloc (.cells #[.pointer (some ⟨w1.heap.size, 0, none⟩), .int .i64 rnd, av, .map (some w6.heap.size)] 110)).rowIs wr.heap.size 110 4 (wsc (.pointer (some ⟨w1.heap.size, 0, none⟩)) rnd av (.map (some w6.heap.size))) := by
    refine ⟨_, (MapKept.heap_alloc wr _).1, rfl, fun i hi => ?_⟩
    match i, hi with
    | 0, _ => rfl
    | 1, _ => rfl
    | 2, _ => rfl
    | 3, _ => rfl
  have hmlt := hN.map.lt
  refine ⟨⟨⟨hrow, hav.kept (fun g hg => hb6.block g (hav.lt hg)), hN7.map, fun p hp => ⟨hN7.row p hp, ?_⟩, hN.kbs, ?_, ?_, ?_, hs26, fun p hp => ?_, fun b hb => ?_⟩, ?_, ?_, fun b hb => ?_, ?_, fun b hb => ?_⟩, ?_⟩
  · obtain ⟨i, h1, h2, e1, e2⟩ := hat p hp
    rw [e1, e2]
    exact (hOL.each i h1 h2).kept (fun g hg => hb6.block g ((hOL.each i h1 h2).lt hg))
  · rw [efoot, List.nodup_append]
    refine ⟨by cases av.ownBlock <;> simp, hOL.nodup, fun a ha b hb => ?_⟩
    rintro rfl
    exact havn a (by simpa using ha) hb
  · have : (recs.map fun p => p.1) = keys := by
      have := congrArg (List.map fun z => z.key) hz
      rw [List.map_map, zList_key] at this
      exact this
    rw [this]
    exact hnd
  · show w2.heap.size ≤ wr.heap.size; omega
  · have := hN.lo p hp
    show w2.heap.size ≤ p.2.kb
    omega
  · rw [efoot] at hb
    rcases List.mem_append.1 hb with hb | hb
    · exact hav2 b (by simpa using hb)
    · exact hOL.lo b hb
  · have h0 := hH.cell (show 0 < 3 by omega)
    have hhl := hH.lt
    have hc := (hB.cell (p := ⟨w1.heap.size, 0, none⟩) hhl).trans h0
    exact (hb6.cell (p := ⟨w1.heap.size, 0, none⟩) (by simp; omega)).trans hc
  · refine hT.kept (fun b hb => ?_)
    rw [hb6.block b (by omega)]
    exact hB.block b hb.2
  · refine ⟨?_, fun h => ?_⟩
    · have := hb6.size; omega
    · have h : w2.heap.size ≤ b := h
      omega
  · have hhl := hH.lt
    refine ⟨?_, fun h => ?_⟩
    · have := hb6.size; omega
    · have h : w2.heap.size ≤ w1.heap.size := h
      omega
  · have := hb6.size
    show w2.heap.size ≤ b
    omega
  · have : absR recs = (recs.map zOf).map fun z => (z.key, (z.rnd, z.tx)) := by
      unfold absR
      rw [List.map_map]
      rfl
    rw [this, hz]
    unfold zList aList
    rw [List.map_map]
    rfl

/-! ### Behind the add -/
def PostA (w0 : World) (wb hb : Nat) (rnd : Int) (av : Value) (al : List Int) (A : List (Int × (Int × List Int))) (wr : World) : Prop :=
  Below w0.heap.size w0 wr ∧ ∃ Fp mb recs, WsAt Fp wr wb (.pointer (some ⟨hb, 0, none⟩)) rnd av al mb recs ∧ absR recs = A
theorem PostA.grow {w0 : World} {wb hb : Nat} {rnd : Int} {av : Value} {al : List Int} {A : List (Int × (Int × List Int))} {wr w' : World} (h : PostA w0 wb hb rnd av al A wr) (k : Below wr.heap.size wr w') : PostA w0 wb hb rnd av al A w' := by
  obtain ⟨h1, Fp, mb, recs, h2, h3⟩ := h
  exact ⟨h1.trans (k.mono h1.size), Fp, mb, recs, h2.grow k, h3⟩
theorem PostA.key {w0 : World} {wb hb : Nat} {rnd : Int} {av : Value} {al : List Int} {A : List (Int × (Int × List Int))} {wr : World} (h : PostA w0 wb hb rnd av al A wr) (k : Int) {r : Int} {tx : List Int} (hk : lkG A k = some (r, tx)) :
    Calls Try.prog 35 #[.pointer (some ⟨wb, 0, none⟩), .int .i64 k] wr (keyPost r tx wr) := by
  obtain ⟨h1, Fp, mb, recs, h2, rfl⟩ := h
  exact key35 h2 k hk
theorem PostA.len {w0 : World} {wb hb : Nat} {rnd : Int} {av : Value} {al : List Int} {A : List (Int × (Int × List Int))} {wr : World} (h : PostA w0 wb hb rnd av al A wr) : Calls Try.prog 40 #[.pointer (some ⟨wb, 0, none⟩)] wr (intPost (A.length : Nat) wr) := by
  obtain ⟨h1, Fp, mb, recs, h2, rfl⟩ := h
  exact len40 h2
theorem PostA.round {w0 : World} {wb hb : Nat} {rnd : Int} {av : Value} {al : List Int} {A : List (Int × (Int × List Int))} {wr : World} (h : PostA w0 wb hb rnd av al A wr) : Calls Try.prog 33 #[.pointer (some ⟨wb, 0, none⟩)] wr (intPost rnd wr) := by
  obtain ⟨h1, Fp, mb, recs, h2, rfl⟩ := h
  exact round33 (h2.row.cell (show 1 < 4 by omega))
theorem PostA.added {w0 : World} {wb hb : Nat} {rnd : Int} {av : Value} {al : List Int} {A : List (Int × (Int × List Int))} {wr : World} (h : PostA w0 wb hb rnd av al A wr) :
    ∃ a c, Calls Try.prog 34 #[.pointer (some ⟨wb, 0, none⟩)] wr (valPost (.slice a al.length c) wr) ∧ IntsAt .i64 (· < wr.heap.size) wr a al := by
  obtain ⟨h1, Fp, mb, recs, h2, rfl⟩ := h
  obtain ⟨a, c, rfl, h4⟩ := own_ints h2.added
  exact ⟨a, c, added34 (h2.row.cell (show 2 < 4 by omega)), h4⟩
/-- Does the add do anything? -/
def actOf (al : List Int) (rnd t : Int) : Bool := decide (t ≠ -1) && (al.getD t.toNat 0 != rnd)
def alOf (al : List Int) (rnd t : Int) : List Int := if actOf al rnd t then al.set t.toNat rnd else al
def opsT (T : List PTxn) (t : Int) : List POp := match T[t.toNat]? with | some x => x.ops | none => []
def aOf (T : List PTxn) (al : List Int) (rnd t : Int) (A : List (Int × (Int × List Int))) : List (Int × (Int × List Int)) := if actOf al rnd t then (opsT T t).foldl (opAdd rnd t) A else A
theorem addA {w0 w7 : World} {w2s w1s wb hb mb : Nat} {ta : Option Addr} {tc : Nat} {T : List PTxn} {rnd : Int} {av : Value} {al keys rs : List Int} {LL : List (List Int)} {recs : List (Int × CRec)} {t : Int}
    (hF : FitsA T rnd al keys rs LL t) (h : AddPre (fun b => w2s ≤ b) (fun b => w1s < b ∧ b < w2s) w7 wb hb ta tc T rnd av al mb recs) (hA : absR recs = aList keys rs LL) (hB : Below w0.heap.size w0 w7) (h2 : w0.heap.size ≤ w2s) (hL : ∀ p ∈ recs, p.2.tx.length ≤ 1048576) :
    Calls Try.prog 32 #[.pointer (some ⟨wb, 0, none⟩), .int .i64 t] w7 (endPost fun w' => PostA w0 wb hb rnd av (alOf al rnd t) (aOf T al rnd t (aList keys rs LL)) w') := by
  refine add32 ?_
  have idle : actOf al rnd t = false → ∀ w', Below w7.heap.size w7 w' → PostA w0 wb hb rnd av (alOf al rnd t) (aOf T al rnd t (aList keys rs LL)) w' := fun ha w' hw => by
    unfold alOf aOf
    rw [ha]
    exact ⟨hB.trans (hw.mono hB.size), _, mb, recs, h.ws.grow hw, hA⟩
  rcases hF.tt with rfl | ⟨tn, rfl, hta, hr | ⟨htT, hol⟩⟩
  · refine (add_initial wb w7).mono ?_
    rintro e w' ⟨rfl, hw⟩
    exact ⟨rfl, idle (by simp [actOf]) w' hw⟩
  · refine (add_idle _ wb mb _ av rnd al recs tn w7 h.ws hta hr hF.an).mono ?_
    rintro e w' ⟨rfl, hw⟩
    exact ⟨rfl, idle (by simp [actOf, hta, hr]) w' hw⟩
  · by_cases hr : al[tn] = rnd
    · refine (add_idle _ wb mb _ av rnd al recs tn w7 h.ws hta hr hF.an).mono ?_
      rintro e w' ⟨rfl, hw⟩
      exact ⟨rfl, idle (by simp [actOf, hta, hr]) w' hw⟩
    · have hact : actOf al rnd (tn : Int) = true := by simp [actOf, hta, hr]
      refine (add_any _ _ w7 wb hb ta tc T rnd av al mb recs tn 1048576 h hta hr htT hF.an (by have := hF.bytes; omega) (by omega) (by omega) hL).mono ?_
      rintro e w' ⟨rfl, recs', hw, ha, hl, ho⟩
      refine ⟨rfl, below_out hB ho (fun b hb => Nat.le_trans h2 hb), fun b => w2s ≤ b, mb, recs', ?_, ?_⟩
      · unfold alOf
        rw [hact]
        exact hw
      · unfold aOf opsT
        rw [hact, ha, List.take_length, hA]
        simp [htT]
end Go.Proofs.Qxb6602646a
