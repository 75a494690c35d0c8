/-
  The stripped history of FnWritesByKeyIgnoresReadsValuesAndIds, in memory.
-/
import Derived.Test.Qxb6602646aMen
namespace Go.Proofs.Qxb6602646a
open Go.RowKit

theorem info38 : (Try.prog.info? 38).map (fun i => (i.zero, i.size, i.bytes)) = some (some (.agg #[.int .i64 0, .int .i64 0, .slice none 0 0]), 3, 40) := by kernel_rfl
theorem info40 : (Try.prog.info? 40).map (fun i => (i.zero, i.size, i.bytes)) = some (some (.agg #[.int .u8 0, .int .i64 0, .int .i64 0]), 3, 24) := by kernel_rfl
theorem info44 : (Try.prog.info? 44).map (fun i => (i.zero, i.size, i.bytes)) = some (some (.agg #[.int .i64 0, .slice none 0 0]), 2, 32) := by kernel_rfl
def ocf (o : POp) : List Value := [.int .u8 o.kind, .int .i64 o.key, .int .i64 o.val]
theorem ocf_len (o : POp) : (ocf o).length = 3 := rfl
theorem GRel.ops {w0 w : World} {l : List POp} {v : Value} (h : GRel 40 3 ocf w0 l v w) : ∃ a c, v = .slice a l.length c ∧ OpsAt (fun b => w0.heap.size ≤ b ∧ b < w.heap.size) w a l := by
  rcases h.form ocf_len with ⟨rfl, rfl⟩ | ⟨g, cap, rfl, h1, h2, h3⟩
  · exact ⟨none, 0, rfl, fun h => absurd h (by simp)⟩
  · refine ⟨_, cap, rfl, fun _ => ⟨g, 0, rfl, ⟨h1, h2⟩, fun i hi => ?_⟩⟩
    rw [Nat.zero_add]
    exact ⟨h3 i hi 0 _ rfl, h3 i hi 1 _ rfl, h3 i hi 2 _ rfl⟩
theorem stripOps_snoc (ops : List POp) (j : Nat) (h : j < ops.length) : stripOps (ops.take (j + 1)) = stripOps (ops.take j) ++ (if ops[j].kind = 1 then [stripOp ops[j]] else []) := by
  rw [List.take_succ_eq_append_getElem h]
  unfold stripOps
  rw [List.filter_append, List.map_append]
  congr 1
  by_cases e : ops[j].kind = 1 <;> simp [e]
/-- k transactions are laid. -/
def StOut (T : List PTxn) (w : World) (k : Nat) (wr : World) : Prop :=
  Below w.heap.size w wr ∧ (∃ f, wr.rowIs w.heap.size 38 (T.length * 3) f) ∧ ∀ i (h : i < T.length), i < k → TxnAt (fun b => w.heap.size < b ∧ b < wr.heap.size) wr w.heap.size (i * 3) ⟨0, 0, stripOps T[i].ops⟩
theorem stOut_start (T : List PTxn) (w : World) : StOut T w 0 (w.alloc (.cells (madeCells #[.int .i64 0, .int .i64 0, .slice none 0 0] (T.length * 3)) 38)) :=
  ⟨(Below.refl _ _).alloc (Nat.le_refl _) _, ⟨_, rowIs_made w _ _ 38⟩, fun _ _ hi => absurd hi (Nat.not_lt_zero _)⟩
theorem stOut_step {T : List PTxn} {w wr wi : World} {k : Nat} (h : StOut T w k wr) (hk : k < T.length) (hb : Below wr.heap.size wr wi) (oa : Option Addr) (oc : Nat)
    (ho : OpsAt (fun b => wr.heap.size ≤ b ∧ b < wi.heap.size) wi oa (stripOps T[k].ops)) :
    StOut T w (k + 1) (((wi.setCell ⟨w.heap.size, k * 3, none⟩ (.int .i64 0)).setCell ⟨w.heap.size, k * 3 + 1, none⟩ (.int .i64 0)).setCell ⟨w.heap.size, k * 3 + 2, none⟩ (.slice oa (stripOps T[k].ops).length oc)) := by
  obtain ⟨h1, ⟨f, h3⟩, h4⟩ := h
  have hlt := h3.lt
  have r3 := h3.of_block (hb.block _ hlt)
  have s3 := rowIs_set3 r3 (k * 3) (.int .i64 0) (.int .i64 0) (.slice oa (stripOps T[k].ops).length oc)
  have hsize : (((wi.setCell ⟨w.heap.size, k * 3, none⟩ (.int .i64 0)).setCell ⟨w.heap.size, k * 3 + 1, none⟩ (.int .i64 0)).setCell ⟨w.heap.size, k * 3 + 2, none⟩ (.slice oa (stripOps T[k].ops).length oc)).heap.size = wi.heap.size := by
    simp [World.setCell]
  refine ⟨below_set3 (h1.trans (hb.mono (by omega))) (by omega) _ _ _ _, ⟨_, s3⟩, fun i hi hik => ?_⟩
  by_cases e : i = k
  · subst e
    refine ⟨?_, ?_, oa, oc, ?_, ?_⟩
    · rw [s3.cell (by omega)]; simp
    · rw [s3.cell (by omega)]; simp
    · rw [s3.cell (by omega)]; simp
    · refine (ho.kept (fun b hb => same_set3 ?_)).mono (fun b hb => ?_)
      · have := hb.1; omega
      · rw [hsize]; have := hb.1; exact ⟨by omega, hb.2⟩
  · obtain ⟨g1, g2, a', c', g3, g4⟩ := h4 i hi (by omega)
    rw [h3.cell (by omega)] at g1 g2 g3
    refine ⟨?_, ?_, a', c', ?_, ?_⟩
    · rw [s3.cell (by omega), ← g1]; rw [if_neg (by omega), if_neg (by omega), if_neg (by omega)]
    · rw [s3.cell (by omega), ← g2]; rw [if_neg (by omega), if_neg (by omega), if_neg (by omega)]
    · rw [s3.cell (by omega), ← g3]; rw [if_neg (by omega), if_neg (by omega), if_neg (by omega)]
    · refine (g4.kept (fun b hb' => ?_)).mono (fun b hb' => ?_)
      · rw [same_set3 (by have := hb'.1; omega)]
        exact hb.block b hb'.2
      · rw [hsize]; exact ⟨hb'.1, Nat.lt_of_lt_of_le hb'.2 hb.size⟩
def StDone (T : List PTxn) (w : World) (v : Value) (wr : World) : Prop :=
  ∃ a c, v = .slice (some a) (stripT T).length c ∧ Below w.heap.size w wr ∧ TxnsAt (fun b => w.heap.size ≤ b ∧ b < wr.heap.size) wr (some a) (stripT T)
theorem stOut_done {T : List PTxn} {w wr : World} {k : Nat} (h : StOut T w k wr) (hk : T.length ≤ k) : StDone T w (.slice (some ⟨w.heap.size, 0, none⟩) T.length T.length) wr := by
  obtain ⟨h1, ⟨f, h3⟩, h4⟩ := h
  have hlt := h3.lt
  refine ⟨_, T.length, by rw [stripT_length], h1, fun hpos => ⟨w.heap.size, 0, rfl, ⟨Nat.le_refl _, hlt⟩, fun j hj => ?_⟩⟩
  have hj' : j < T.length := by rw [stripT_length] at hj; exact hj
  have e : (stripT T)[j] = ⟨0, 0, stripOps T[j].ops⟩ := by simp [stripT]
  rw [e, Nat.zero_add]
  exact (h4 j hj' (by omega)).mono (fun b hb => ⟨by have := hb.1; omega, hb.2⟩)

/-! ### The bare sessions -/
def bareS (SS : List PSes) : List PSes := SS.map fun s => ⟨0, s.txns⟩
theorem bareS_length (SS : List PSes) : (bareS SS).length = SS.length := by simp [bareS]
theorem bareS_at (SS : List PSes) (k : Nat) (h : k < (bareS SS).length) : (bareS SS)[k] = ⟨0, (SS[k]'(by rwa [bareS_length] at h)).txns⟩ := by simp [bareS]
theorem txL_bare (SS : List PSes) : txL (bareS SS) = txL SS := by
  unfold txL bareS
  rw [List.map_map]
  rfl
def BaOut (SS : List PSes) (w : World) (k : Nat) (wr : World) : Prop :=
  Below w.heap.size w wr ∧ (∃ f, wr.rowIs w.heap.size 44 (SS.length * 2) f) ∧ ∀ i (h : i < SS.length), i < k → SesAt (· < w.heap.size) wr w.heap.size (i * 2) ⟨0, SS[i].txns⟩
theorem baOut_start (SS : List PSes) (w : World) : BaOut SS w 0 (w.alloc (.cells (madeCells #[.int .i64 0, .slice none 0 0] (SS.length * 2)) 44)) :=
  ⟨(Below.refl _ _).alloc (Nat.le_refl _) _, ⟨_, rowIs_made w _ _ 44⟩, fun _ _ hi => absurd hi (Nat.not_lt_zero _)⟩
theorem baOut_step {SS : List PSes} {w wr : World} {k : Nat} (h : BaOut SS w k wr) (hk : k < SS.length) (a : Option Addr) (c : Nat) (hI : IntsAt .i64 (· < w.heap.size) w a SS[k].txns) :
    BaOut SS w (k + 1) ((wr.setCell ⟨w.heap.size, k * 2, none⟩ (.int .i64 0)).setCell ⟨w.heap.size, k * 2 + 1, none⟩ (.slice a SS[k].txns.length c)) := by
  obtain ⟨h1, ⟨f, h4⟩, h5⟩ := h
  have s4 := (h4.set (k * 2) (.int .i64 0)).set (k * 2 + 1) (.slice a SS[k].txns.length c)
  have same : ∀ b, b ≠ w.heap.size → ((wr.setCell ⟨w.heap.size, k * 2, none⟩ (.int .i64 0)).setCell ⟨w.heap.size, k * 2 + 1, none⟩ (.slice a SS[k].txns.length c)).heap[b]? = wr.heap[b]? := fun b hb => by
    rw [Below.heap_setCell _ _ _ _ hb, Below.heap_setCell _ _ _ _ hb]
  refine ⟨(h1.setCell (by simp) _).setCell (by simp) _, ⟨_, s4⟩, fun i hi hik => ?_⟩
  by_cases e : i = k
  · subst e
    refine ⟨?_, a, c, ?_, ?_⟩
    · rw [s4.cell (by omega)]; simp
    · rw [s4.cell (by omega)]; simp
    · refine hI.kept (fun b hb' => ?_)
      rw [same b (by have hb' : b < w.heap.size := hb'; omega)]
      exact h1.block b hb'
  · obtain ⟨g1, a', c', g3, g4⟩ := h5 i hi (by omega)
    rw [h4.cell (by omega)] at g1 g3
    refine ⟨?_, a', c', ?_, ?_⟩
    · rw [s4.cell (by omega), ← g1]; rw [if_neg (by omega), if_neg (by omega)]
    · rw [s4.cell (by omega), ← g3]; rw [if_neg (by omega), if_neg (by omega)]
    · refine g4.kept (fun b hb' => ?_)
      rw [same b (by have hb' : b < w.heap.size := hb'; omega)]
def BaDone (SS : List PSes) (w : World) (v : Value) (wr : World) : Prop :=
  ∃ a c, v = .slice (some a) (bareS SS).length c ∧ Below w.heap.size w wr ∧ SessAt (· < wr.heap.size) wr (some a) (bareS SS)
theorem baOut_done {SS : List PSes} {w wr : World} {k : Nat} (h : BaOut SS w k wr) (hk : SS.length ≤ k) : BaDone SS w (.slice (some ⟨w.heap.size, 0, none⟩) SS.length SS.length) wr := by
  obtain ⟨h1, ⟨f, h3⟩, h4⟩ := h
  have hlt := h3.lt
  refine ⟨_, SS.length, by rw [bareS_length], h1, fun hpos => ⟨w.heap.size, 0, rfl, hlt, fun j hj => ?_⟩⟩
  have hj' : j < SS.length := by rw [bareS_length] at hj; exact hj
  rw [bareS_at, Nat.zero_add]
  exact (h4 j hj' (by omega)).mono (fun b hb => Nat.lt_of_lt_of_le hb h1.size)
end Go.Proofs.Qxb6602646a
