/-
  overwrittenWrites.
-/
import Derived.Test.Qxb6602646aHist
namespace Go.Proofs.Qxb6602646a
open Go.RowKit

/-- Keys that are a pair of int64 (keyValue). -/
def kvkey (p : Int × Int) : Value := .agg #[.int .i64 p.1, .int .i64 p.2]

theorem kv_check (em : Bool) (k : Int × Int) (w : World) : (Instr.checkKey em 10000 56 (kvkey k)).run Try.prog w = .ok () w := by
  have h2 : ∀ x, (Instr.checkKey em 9999 2 (.int .i64 x)).run Try.prog w = .ok () w := fun x => MapKept.run_checkKey Try.underlying2 (by simp [MapKept.IsKey]) em 9998
  unfold kvkey
  show (Instr.checkKey em (9999 + 1) 56 _).run Try.prog w = _
  rw [Instr.checkKey]
  simp [run_underlying Try.underlying56, go_sem, h2]
theorem kv_equal (a b : Int × Int) (w : World) : (Op.equal 56 (kvkey a) (kvkey b)).run Try.prog w = .ok (decide (a = b)) w := by
  unfold Op.equal kvkey Op.maxDepth
  rw [run_equalIn_struct w 9999 56 _ _ (by kernel_rfl) (by kernel_rfl)]
  have e2 : ∀ (w : World) (x y : Int), (Op.equalIn 9999 2 (.int .i64 x) (.int .i64 y)).run Try.prog w = .ok (x == y) w := fun w x y => run_equalIn_int w 9998 2 .i64 .i64 x y Try.underlying2
  obtain ⟨a1, a2⟩ := a
  obtain ⟨b1, b2⟩ := b
  simp only [Program.fieldsOf, Try.underlying56]
  by_cases h1 : a1 = b1 <;> by_cases h2 : a2 = b2 <;> simp [go_sem, Op.eqFields, e2, h1, h2]

theorem kv_enc : KeyEnc Try.prog 56 kvkey where
  check em k w := kv_check em k w
  stays k w := by simp [Instr.keyThatStays, kvkey, Instr.sameBits]
  find w es L k h := by
    have ask : ∀ (es : List MapEntry) (L : List ((Int × Int) × Value)) (i : Nat), Rep kvkey es L → (Instr.findAsking 56 (kvkey k) es i).run Try.prog w = .ok (fnd L k i) w := by
      intro es
      induction es with
      | nil => intro L i h; cases L with
        | nil => simp [Instr.findAsking, fnd]
        | cons p L => simp [Rep] at h
      | cons e es ih => intro L i h; cases L with
        | nil => simp [Rep] at h
        | cons p L =>
          simp only [Rep, List.map_cons, List.cons.injEq, Prod.mk.injEq] at h
          obtain ⟨⟨h1, h2⟩, h3⟩ := h
          have hs := kv_equal k p.1 w
          by_cases hk : p.1 = k
          · rw [hk] at hs
            simp [Instr.findAsking, h1, hs, fnd, hk, h2]
          · have hk' : ¬ k = p.1 := fun e => hk e.symm
            simp [Instr.findAsking, h1, hs, fnd, hk, hk', ih L (i + 1) h3]
    cases es with
    | nil => cases L with
      | nil => simp [Instr.findKey, run_underlying Try.underlying56, Instr.findNow, fnd]
      | cons p L => simp [Rep] at h
    | cons e es =>
      have := ask (e :: es) L 0 h
      simp [Instr.findKey, run_underlying Try.underlying56, Instr.findNow, Instr.sameNow, this]

/-! ### The plain function -/
def lkG {κ α : Type} [DecidableEq κ] : List (κ × α) → κ → Option α
  | [], _ => none
  | p :: L, k => if p.1 = k then some p.2 else lkG L k
def upG {κ α : Type} [DecidableEq κ] : List (κ × α) → κ → α → List (κ × α)
  | [], k, v => [(k, v)]
  | p :: L, k, v => if p.1 = k then (k, v) :: L else p :: upG L k v
theorem lk_map {κ α : Type} [DecidableEq κ] (f : α → Value) (M : List (κ × α)) (k : κ) : lk (M.map fun p => (p.1, f p.2)) k = (lkG M k).map f := by
  induction M with
  | nil => rfl
  | cons p M ih =>
    simp only [List.map_cons, lk, lkG]
    split
    · rfl
    · exact ih
theorem up_map {κ α : Type} [DecidableEq κ] (f : α → Value) (M : List (κ × α)) (k : κ) (v : α) : up (M.map fun p => (p.1, f p.2)) k (f v) = (upG M k v).map fun p => (p.1, f p.2) := by
  induction M with
  | nil => rfl
  | cons p M ih =>
    simp only [List.map_cons, up, upG]
    split
    · rfl
    · simp [ih]
def vI (M : List (Int × Int)) : List (Int × Value) := M.map fun p => (p.1, .int .i64 p.2)
def vB (L : List (Int × Int)) : List ((Int × Int) × Value) := L.map fun p => (p, .bool true)
def ins (L : List (Int × Int)) (p : Int × Int) : List (Int × Int) := if p ∈ L then L else L ++ [p]
theorem lk_vI (M : List (Int × Int)) (k : Int) : lk (vI M) k = (lkG M k).map (Value.int .i64) := lk_map (Value.int .i64) M k
theorem up_vI (M : List (Int × Int)) (k v : Int) : up (vI M) k (.int .i64 v) = vI (upG M k v) := up_map (Value.int .i64) M k v
theorem up_vB (L : List (Int × Int)) (p : Int × Int) : up (vB L) p (.bool true) = vB (ins L p) := by
  unfold ins
  induction L with
  | nil => rfl
  | cons q L ih =>
    simp only [vB, List.map_cons, up] at ih ⊢
    by_cases h : q = p
    · subst h; simp
    · have h' : ¬ p = q := fun e => h e.symm
      rw [if_neg h, ih]
      by_cases h2 : p ∈ L <;> simp [h', h2]
theorem lk_vB (L : List (Int × Int)) (p : Int × Int) : lk (vB L) p = if p ∈ L then some (.bool true) else none := by
  induction L with
  | nil => rfl
  | cons q L ih =>
    simp only [vB, List.map_cons, lk] at ih ⊢
    by_cases h : q = p
    · subst h; simp
    · have h' : ¬ p = q := fun e => h e.symm
      rw [if_neg h, ih]
      simp [h']

/-- One operation: what the transaction has written last of each key; the writes that were written over. -/
def owStep (s : List (Int × Int) × List (Int × Int)) (o : POp) : List (Int × Int) × List (Int × Int) :=
  if o.kind = 1 then (upG s.1 o.key o.val, match lkG s.1 o.key with | some b => ins s.2 (o.key, b) | none => s.2) else s
def owTxn (L : List (Int × Int)) (t : PTxn) : List (Int × Int) := (t.ops.foldl owStep ([], L)).2
def owAll (T : List PTxn) : List (Int × Int) := T.foldl owTxn []
theorem foldl_snoc {α β : Type} (f : β → α → β) (b : β) (l : List α) (k : Nat) (h : k < l.length) : (l.take (k + 1)).foldl f b = f ((l.take k).foldl f b) l[k] := by
  rw [List.take_succ_eq_append_getElem h, List.foldl_append]
  rfl

/-! ### The walk -/
def Lat (B : Nat) (wr : World) (v : Value) (M : List (Int × Int)) : Prop :=
  (v = .map none ∧ M = []) ∨ ∃ r, v = .map (some r) ∧ B ≤ r ∧ MapAt ikey wr r (vI M)
def Ov (B : Nat) (wr : World) (v : Value) (L : List (Int × Int)) : Prop :=
  (v = .map none ∧ L = []) ∨ ∃ r, v = .map (some r) ∧ B ≤ r ∧ L ≠ [] ∧ MapAt kvkey wr r (vB L)
theorem Ov.kept {B : Nat} {w w' : World} {v : Value} {L : List (Int × Int)} (h : Ov B w v L) (k : ∀ r, v = .map (some r) → w'.heap[r]? = w.heap[r]?) : Ov B w' v L := by
  rcases h with h | ⟨r, h1, h2, h3, h4⟩
  · exact .inl h
  · exact .inr ⟨r, h1, h2, h3, h4.kept (k r h1)⟩
theorem Lat.kept {B : Nat} {w w' : World} {v : Value} {M : List (Int × Int)} (h : Lat B w v M) (k : ∀ r, v = .map (some r) → w'.heap[r]? = w.heap[r]?) : Lat B w' v M := by
  rcases h with h | ⟨r, h1, h2, h3⟩
  · exact .inl h
  · exact .inr ⟨r, h1, h2, h3.kept (k r h1)⟩
theorem Ov.alloc {B : Nat} {w : World} {v : Value} {L : List (Int × Int)} (h : Ov B w v L) (o : Obj) : Ov B (w.alloc o) v L := by
  rcases h with h | ⟨r, h1, h2, h3, h4⟩
  · exact .inl h
  · exact .inr ⟨r, h1, h2, h3, h4.alloc o⟩
theorem Lat.alloc {B : Nat} {w : World} {v : Value} {M : List (Int × Int)} (h : Lat B w v M) (o : Obj) : Lat B (w.alloc o) v M := by
  rcases h with h | ⟨r, h1, h2, h3⟩
  · exact .inl h
  · exact .inr ⟨r, h1, h2, h3.alloc o⟩
/-- The two maps are two blocks. -/
theorem maps_apart {w : World} {r r' : Nat} {M L : List (Int × Int)} (h : MapAt ikey w r (vI M)) (h' : MapAt kvkey w r' (vB L)) (hne : L ≠ []) : r' ≠ r := by
  rintro rfl
  obtain ⟨es, c, h1, h2⟩ := h
  obtain ⟨es', c', h3, h4⟩ := h'
  rw [h1] at h3
  cases h3
  cases L with
  | nil => exact hne rfl
  | cons p L =>
    simp only [Rep, vB, List.map_cons] at h2 h4
    rw [h2] at h4
    cases M with
    | nil => simp [vI] at h4
    | cons q M => simp [vI, ikey, kvkey] at h4

def owPost (T : List PTxn) (w : World) (e : Ending) (w' : World) : Prop :=
  ∃ v, e = .returned v ∧ Ov w.heap.size w' v (owAll T) ∧ Below w.heap.size w w'

theorem eql_nil114 (w : World) (r : Option Nat) : (binOp .eql 114 (.map r) (.map none)).run Try.prog w = .ok (.bool r.isNone) w := run_eql_map_nil w 114 2 2 r Try.underlying114
theorem eql_nil48 (w : World) (r : Option Nat) : (binOp .eql 48 (.map r) (.map none)).run Try.prog w = .ok (.bool r.isNone) w := run_eql_map_nil w 48 56 4 r Try.underlying48
theorem mk_map (w : World) (t : TypeId) : (Instr.makeMap t none).run Try.prog w = .ok (.map (some w.heap.size)) (w.alloc (.map #[] 0)) := run_makeMap t w
theorem zero2 (w : World) : (zeroValue 2).run Try.prog w = .ok (.int .i64 0) w := by kernel_rfl
attribute [local go_sem] eql_nil114 eql_nil48 mk_map


/-- The inner loop's state. -/
def OwIn (T : List PTxn) (w : World) (k : Nat) (ops : List POp) (m : Nat) (v3 v6 : Value) (wr : World) : Prop :=
  ∃ M L, (ops.take m).foldl owStep ([], owAll (T.take k)) = (M, L) ∧ Below w.heap.size w wr ∧ Ov w.heap.size wr v3 L ∧ Lat w.heap.size wr v6 M
theorem owIn_start {T : List PTxn} {w wo : World} {k : Nat} {v : Value} (ops : List POp) (hB : Below w.heap.size w wo) (hO : Ov w.heap.size wo v (owAll (T.take k))) (o : Obj) : OwIn T w k ops 0 v (.map none) (wo.alloc o) := by
  refine ⟨[], _, rfl, hB.alloc hB.size o, ?_, .inl ⟨rfl, rfl⟩⟩
  rcases hO with h | ⟨r, h1, h2, h3, h4⟩
  · exact .inl h
  · exact .inr ⟨r, h1, h2, h3, h4.alloc o⟩
theorem ow_fold {T : List PTxn} {k m : Nat} {ops : List POp} {M L : List (Int × Int)} (h : (ops.take m).foldl owStep ([], owAll (T.take k)) = (M, L)) (hm : m < ops.length) :
    (ops.take (m + 1)).foldl owStep ([], owAll (T.take k)) = owStep (M, L) ops[m] := by
  rw [foldl_snoc _ _ _ _ hm, h]
theorem owStep_read {M L : List (Int × Int)} {o : POp} (h : o.kind ≠ 1) : owStep (M, L) o = (M, L) := by simp [owStep, h]
theorem owStep_miss {M L : List (Int × Int)} {o : POp} (h : o.kind = 1) (hl : lkG M o.key = none) : owStep (M, L) o = (upG M o.key o.val, L) := by simp [owStep, h, hl]
theorem owStep_hit {M L : List (Int × Int)} {o : POp} {b : Int} (h : o.kind = 1) (hl : lkG M o.key = some b) : owStep (M, L) o = (upG M o.key o.val, ins L (o.key, b)) := by simp [owStep, h, hl]
theorem ins_ne (L : List (Int × Int)) (p : Int × Int) : ins L p ≠ [] := by
  unfold ins
  split
  · rintro rfl; simp at *
  · simp
theorem lk_some {M : List (Int × Int)} {k b : Int} (h : lkG M k = some b) : (lk (vI M) k).getD (.int .i64 0) = .int .i64 b ∧ (lk (vI M) k).isSome = true := by rw [lk_vI, h]; exact ⟨rfl, rfl⟩
theorem lk_none {M : List (Int × Int)} {k : Int} (h : lkG M k = none) : (lk (vI M) k).getD (.int .i64 0) = .int .i64 0 ∧ (lk (vI M) k).isSome = false := by rw [lk_vI, h]; exact ⟨rfl, rfl⟩

/-- The transaction's first write. -/
theorem ow_first {T : List PTxn} {w wr w2 : World} {k m : Nat} {ops : List POp} {o : POp} {L : List (Int × Int)} {v3 : Value} {box : Obj} (hB : Below w.heap.size w wr) (hO : Ov w.heap.size wr v3 L)
    (hE : (ops.take (m + 1)).foldl owStep ([], owAll (T.take k)) = owStep ([], L) o) (hk : o.kind = 1)
    (hm : MapAt ikey w2 (wr.heap.size + 1) (up [] o.key (.int .i64 o.val))) (ht : Turned ((wr.alloc box).alloc (.map #[] 0)) w2 (wr.heap.size + 1)) :
    OwIn T w k ops (m + 1) v3 (.map (some (wr.heap.size + 1))) w2 := by
  have hsz := hB.size
  refine ⟨[(o.key, o.val)], L, ?_, Turned.below ((hB.alloc hsz box).alloc (by simp; omega) _) (by omega) ht, ((hO.alloc box).alloc (.map #[] 0)).kept ?_, .inr ⟨_, rfl, by omega, hm⟩⟩
  · rw [hE, owStep_miss hk rfl]; rfl
  · intro r hr
    refine ht.block r ?_
    rcases hO with ⟨h, _⟩ | ⟨r', h1, _, _, h4⟩
    · rw [h] at hr; cases hr
    · rw [h1] at hr; cases hr; have := h4.lt; omega
/-- A later write of a key that was not yet written. -/
theorem ow_miss {T : List PTxn} {w wr w2 : World} {k m r : Nat} {ops : List POp} {o : POp} {M L : List (Int × Int)} {v3 : Value} {box : Obj} (hB : Below w.heap.size w wr) (hO : Ov w.heap.size wr v3 L)
    (hE : (ops.take (m + 1)).foldl owStep ([], owAll (T.take k)) = owStep (M, L) o) (hk : o.kind = 1) (hl : lkG M o.key = none) (hr : w.heap.size ≤ r) (hM : MapAt ikey wr r (vI M))
    (hm : MapAt ikey w2 r (up (vI M) o.key (.int .i64 o.val))) (ht : Turned (wr.alloc box) w2 r) :
    OwIn T w k ops (m + 1) v3 (.map (some r)) w2 := by
  have hsz := hB.size
  refine ⟨upG M o.key o.val, L, ?_, Turned.below (hB.alloc hsz box) hr ht, (hO.alloc box).kept ?_, .inr ⟨_, rfl, hr, by rw [← up_vI]; exact hm⟩⟩
  · rw [hE, owStep_miss hk hl]
  · intro r' hr'
    refine ht.block r' ?_
    rcases hO with ⟨h, _⟩ | ⟨r'', h1, _, h3, h4⟩
    · rw [h] at hr'; cases hr'
    · rw [h1] at hr'; cases hr'; exact maps_apart hM h4 h3
/-- A write over an earlier one: the first that is noted. -/
theorem ow_hit0 {T : List PTxn} {w wr w2 w3 : World} {k m r : Nat} {b : Int} {ops : List POp} {o : POp} {M : List (Int × Int)} {box : Obj} (hB : Below w.heap.size w wr)
    (hE : (ops.take (m + 1)).foldl owStep ([], owAll (T.take k)) = owStep (M, []) o) (hk : o.kind = 1) (hl : lkG M o.key = some b) (hr : w.heap.size ≤ r) (hM : MapAt ikey wr r (vI M))
    (hm2 : MapAt kvkey w2 (wr.heap.size + 1) (up [] (o.key, b) (.bool true))) (ht2 : Turned ((wr.alloc box).alloc (.map #[] 0)) w2 (wr.heap.size + 1))
    (hm3 : MapAt ikey w3 r (up (vI M) o.key (.int .i64 o.val))) (ht3 : Turned w2 w3 r) :
    OwIn T w k ops (m + 1) (.map (some (wr.heap.size + 1))) (.map (some r)) w3 := by
  have hsz := hB.size
  have hlt := hM.lt
  refine ⟨upG M o.key o.val, [(o.key, b)], ?_, Turned.below (Turned.below ((hB.alloc hsz box).alloc (by simp; omega) _) (by omega) ht2) hr ht3, .inr ⟨_, rfl, by omega, by simp, hm2.kept (ht3.block _ (by omega))⟩, .inr ⟨_, rfl, hr, by rw [← up_vI]; exact hm3⟩⟩
  rw [hE, owStep_hit hk hl]; rfl
/-- .. and a later one. -/
theorem ow_hit {T : List PTxn} {w wr w2 w3 : World} {k m r r' : Nat} {b : Int} {ops : List POp} {o : POp} {M L : List (Int × Int)} {box : Obj} (hB : Below w.heap.size w wr)
    (hE : (ops.take (m + 1)).foldl owStep ([], owAll (T.take k)) = owStep (M, L) o) (hk : o.kind = 1) (hl : lkG M o.key = some b) (hr : w.heap.size ≤ r) (hr' : w.heap.size ≤ r') (hne : r' ≠ r)
    (hm2 : MapAt kvkey w2 r' (up (vB L) (o.key, b) (.bool true))) (ht2 : Turned (wr.alloc box) w2 r')
    (hm3 : MapAt ikey w3 r (up (vI M) o.key (.int .i64 o.val))) (ht3 : Turned w2 w3 r) :
    OwIn T w k ops (m + 1) (.map (some r')) (.map (some r)) w3 := by
  have hsz := hB.size
  refine ⟨upG M o.key o.val, ins L (o.key, b), ?_, Turned.below (Turned.below (hB.alloc hsz box) hr' ht2) hr ht3, .inr ⟨_, rfl, hr', ins_ne _ _, ?_⟩, .inr ⟨_, rfl, hr, by rw [← up_vI]; exact hm3⟩⟩
  · rw [hE, owStep_hit hk hl]
  · rw [← up_vB]; exact hm2.kept (ht3.block _ hne)

set_option maxHeartbeats 1000000 in
set_option maxRecDepth 20000 in
theorem ow_any (hb tc : Nat) (ta : Option Addr) (vS : Value) (T : List PTxn) (w : World) (hr : w.rowIs hb 88 3 (hcell (.slice ta T.length tc) vS)) (hT : TxnsAt (· < w.heap.size) w ta T)
    (hn : T.length ≤ 1048576) (hsum : opsSum T ≤ 1048576) :
    Calls Try.prog 51 #[.pointer (some ⟨hb, 0, none⟩)] w (owPost T w) := by
  have c0 : w.cell? ⟨hb, 0, none⟩ = some (.slice ta T.length tc) := hr.cell (by omega)
  have HT := hide hT
  have HSM := hide hsum
  clear hr hT hsum
  go_enter Try.func51, Try.ntmps51
  go_wp2
  go_loopw [3, 16] (fun v i wr => ∃ k : Nat, k ≤ T.length ∧ i = .int .i64 k ∧ Below w.heap.size w wr ∧ Ov w.heap.size wr v (owAll (T.take k))) (fun _ i _ => T.length - (intOf i).toNat)
  case atStart => exact ⟨0, Nat.zero_le _, rfl, Below.refl _ _, .inl ⟨rfl, rfl⟩⟩
  case round =>
    rename World => wo
    obtain ⟨k, hk, rfl, hB, hO⟩ := hrel
    have HB := hide hB
    have HO := hide hO
    clear hB hO
    by_cases hlt : k < T.length
    · obtain ⟨b, off, rfl, hbS, hx⟩ := HT.out (by omega)
      obtain ⟨g1, g2, a', c', g3, g4⟩ := hx k hlt
      have f1 := (HB.out.cell (p := ⟨b, off + k * 3, none⟩) hbS).trans g1
      have f2 := (HB.out.cell (p := ⟨b, off + k * 3 + 1, none⟩) hbS).trans g2
      have f3 := (HB.out.cell (p := ⟨b, off + k * 3 + 2, none⟩) hbS).trans g3
      have HG := hide g4
      have hol : T[k].ops.length ≤ 1048576 := Nat.le_trans (opsSum_at T k hlt) HSM.out
      obtain ⟨t, ht⟩ : ∃ t, t = T[k] := ⟨_, rfl⟩
      rw [← ht] at f1 f2 f3 HG hol
      have HTk := hide ht
      clear g1 g2 g3 g4 hx ht
      go_wp2
      go_loopw [3, 6, 23] (fun v3 v6 i wr => ∃ m : Nat, m ≤ t.ops.length ∧ i = .int .i64 m ∧ OwIn T w k t.ops m v3 v6 wr) (fun _ _ i _ => t.ops.length - (intOf i).toNat)
      case atStart => exact ⟨0, Nat.zero_le _, rfl, owIn_start _ HB.out HO.out _⟩
      case round =>
        obtain ⟨m, hm, rfl, M, L, hF, hB2, hO2, hLat⟩ := hrel
        have HF := hide hF
        have HB2 := hide hB2
        have HO2 := hide hO2
        have HLat := hide hLat
        clear hF hB2 hO2 hLat
        by_cases hml : m < t.ops.length
        · obtain ⟨b', off', rfl, hbS', hx'⟩ := HG.out (by omega)
          obtain ⟨p1, p2, p3⟩ := hx' m hml
          have q1 := (HB2.out.cell (p := ⟨b', off' + m * 3, none⟩) hbS').trans p1
          have q2 := (HB2.out.cell (p := ⟨b', off' + m * 3 + 1, none⟩) hbS').trans p2
          have q3 := (HB2.out.cell (p := ⟨b', off' + m * 3 + 2, none⟩) hbS').trans p3
          have HE := hide (ow_fold HF.out hml)
          obtain ⟨o, ho⟩ : ∃ o, o = t.ops[m] := ⟨_, rfl⟩
          rw [← ho] at q1 q2 q3 HE
          clear p1 p2 p3 hx' ho f1 f2 f3
          have hsz := HB2.out.size
          by_cases hkd : o.kind = 1
          · have hkb : (o.kind != 1) = false := by simp [hkd]
            have HK := hide hkd
            clear hkd
            rcases HLat.out with ⟨hv6, hM⟩ | ⟨r, hv6, hBr, hMr⟩
            · -- the transaction's first write
              subst hv6 hM
              have hm1 : MapAt ikey ((wr.alloc (.cells #[.int .u8 o.kind, .int .i64 o.key, .int .i64 o.val] 92)).alloc (.map #[] 0)) (wr.heap.size + 1) [] := by
                have := MapAt.made ikey (wr.alloc (.cells #[.int .u8 o.kind, .int .i64 o.key, .int .i64 o.val] 92))
                simpa using this
              have HM1 := hide hm1
              clear hm1 HLat
              go_wp2_with (first | (at_lookup; refine wpList_lookup_ok rfl _ _ 114 2 2 rfl (int_enc Try.underlying2) Try.underlying114 HM1.out (.int .i64 0) (zero2 _) o.key rfl rfl (.int .i64 0) false rfl rfl ?_) | (at_mapUpdate; refine wpList_update_at rfl _ _ _ 114 2 2 rfl (int_enc Try.underlying2) Try.underlying114 HM1.out o.key (.int .i64 o.val) rfl rfl rfl ?_; intro w2 hm2 ht2))
              have HM2 := hide hm2
              have HT2 := hide ht2
              clear hm2 ht2
              go_wp2
              go_roundw
              case rel => exact ⟨m + 1, by omega, by go_num, ow_first HB2.out HO2.out HE.out HK.out HM2.out HT2.out⟩
              case measure => simp [intOf]; omega
            · subst hv6
              have HBr := hide hBr
              have HMr := hide hMr
              have hrl := hMr.lt
              have hrz : r ≠ wr.heap.size := by omega
              have hrz' : wr.heap.size ≠ r := by omega
              have HMa := hide (hMr.alloc (.cells #[.int .u8 o.kind, .int .i64 o.key, .int .i64 o.val] 92))
              clear hBr hMr HLat
              cases hlk : lkG M o.key with
              | none =>
                obtain ⟨e1, e2⟩ := lk_none hlk
                have HL := hide hlk
                have E1 := hide e1
                have E2 := hide e2
                clear hlk e1 e2
                go_wp2_with (first | (at_lookup; refine wpList_lookup_ok rfl _ _ 114 2 2 rfl (int_enc Try.underlying2) Try.underlying114 HMa.out (.int .i64 0) (zero2 _) o.key rfl rfl (.int .i64 0) false E1.out E2.out ?_) | (at_mapUpdate; refine wpList_update_at rfl _ _ _ 114 2 2 rfl (int_enc Try.underlying2) Try.underlying114 HMa.out o.key (.int .i64 o.val) rfl rfl rfl ?_; intro w2 hm2 ht2))
                have HM2 := hide hm2
                have HT2 := hide ht2
                clear hm2 ht2
                go_wp2
                go_roundw
                case rel => exact ⟨m + 1, by omega, by go_num, ow_miss HB2.out HO2.out HE.out HK.out HL.out HBr.out HMr.out HM2.out HT2.out⟩
                case measure => simp [intOf]; omega
              | some bf =>
                obtain ⟨e1, e2⟩ := lk_some hlk
                have HL := hide hlk
                have E1 := hide e1
                have E2 := hide e2
                clear hlk e1 e2
                rcases HO2.out with ⟨hv3, hL⟩ | ⟨r', hv3, hBr', hLne, hMr'⟩
                · subst hv3 hL
                  have b1 := cal (cell_box wr #[.int .u8 o.kind, .int .i64 o.key, .int .i64 o.val] 92 1 (.int .i64 o.key) rfl) (.map #[] 0)
                  have b2 := cal (cell_box wr #[.int .u8 o.kind, .int .i64 o.key, .int .i64 o.val] 92 2 (.int .i64 o.val) rfl) (.map #[] 0)
                  have hm1 : MapAt kvkey ((wr.alloc (.cells #[.int .u8 o.kind, .int .i64 o.key, .int .i64 o.val] 92)).alloc (.map #[] 0)) (wr.heap.size + 1) [] := by
                    have := MapAt.made kvkey (wr.alloc (.cells #[.int .u8 o.kind, .int .i64 o.key, .int .i64 o.val] 92))
                    simpa using this
                  have HM1 := hide hm1
                  have HMb := hide (HMa.out.alloc (.map #[] 0))
                  have B1 := hide b1
                  have B2 := hide b2
                  clear hm1 b1 b2
                  go_wp2_with (first | (at_lookup; refine wpList_lookup_ok rfl _ _ 114 2 2 rfl (int_enc Try.underlying2) Try.underlying114 HMa.out (.int .i64 0) (zero2 _) o.key rfl rfl (.int .i64 bf) true E1.out E2.out ?_) | (at_mapUpdate; refine wpList_update_at rfl _ _ _ 48 56 4 rfl kv_enc Try.underlying48 HM1.out (o.key, bf) (.bool true) rfl rfl rfl ?_; intro w2 hm2 ht2; have HM2 := hide hm2; have HT2 := hide ht2; have d1 := (ht2.cell (p := ⟨wr.heap.size, 1, none⟩) (by simp)).trans B1.out; have d2 := (ht2.cell (p := ⟨wr.heap.size, 2, none⟩) (by simp)).trans B2.out; have HMc := hide (HMb.out.kept (ht2.block r (by omega))); clear hm2 ht2) | (at_mapUpdate; refine wpList_update_at rfl _ _ _ 114 2 2 rfl (int_enc Try.underlying2) Try.underlying114 HMc.out o.key (.int .i64 o.val) rfl rfl rfl ?_; intro w3 hm3 ht3))
                  have HM3 := hide hm3
                  have HT3 := hide ht3
                  clear hm3 ht3
                  go_wp2
                  go_roundw
                  case rel => exact ⟨m + 1, by omega, by go_num, ow_hit0 HB2.out HE.out HK.out HL.out HBr.out HMr.out HM2.out HT2.out HM3.out HT3.out⟩
                  case measure => simp [intOf]; omega
                · subst hv3
                  have hne := maps_apart HMr.out hMr' hLne
                  have hrl' := hMr'.lt
                  have hrz2 : wr.heap.size ≠ r' := by omega
                  have b1 := cell_box wr #[.int .u8 o.kind, .int .i64 o.key, .int .i64 o.val] 92 1 (.int .i64 o.key) rfl
                  have b2 := cell_box wr #[.int .u8 o.kind, .int .i64 o.key, .int .i64 o.val] 92 2 (.int .i64 o.val) rfl
                  have HM1 := hide (hMr'.alloc (.cells #[.int .u8 o.kind, .int .i64 o.key, .int .i64 o.val] 92))
                  have B1 := hide b1
                  have B2 := hide b2
                  have HN := hide hne
                  have HBr' := hide hBr'
                  clear b1 b2 hMr' hLne hne hBr'
                  go_wp2_with (first | (at_lookup; refine wpList_lookup_ok rfl _ _ 114 2 2 rfl (int_enc Try.underlying2) Try.underlying114 HMa.out (.int .i64 0) (zero2 _) o.key rfl rfl (.int .i64 bf) true E1.out E2.out ?_) | (at_mapUpdate; refine wpList_update_at rfl _ _ _ 48 56 4 rfl kv_enc Try.underlying48 HM1.out (o.key, bf) (.bool true) rfl rfl rfl ?_; intro w2 hm2 ht2; have HM2 := hide hm2; have HT2 := hide ht2; have d1 := (ht2.cell (p := ⟨wr.heap.size, 1, none⟩) hrz2).trans B1.out; have d2 := (ht2.cell (p := ⟨wr.heap.size, 2, none⟩) hrz2).trans B2.out; have HMc := hide (HMa.out.kept (ht2.block r (fun e => HN.out e.symm))); clear hm2 ht2) | (at_mapUpdate; refine wpList_update_at rfl _ _ _ 114 2 2 rfl (int_enc Try.underlying2) Try.underlying114 HMc.out o.key (.int .i64 o.val) rfl rfl rfl ?_; intro w3 hm3 ht3))
                  have HM3 := hide hm3
                  have HT3 := hide ht3
                  clear hm3 ht3
                  go_wp2
                  go_roundw
                  case rel => exact ⟨m + 1, by omega, by go_num, ow_hit HB2.out HE.out HK.out HL.out HBr.out HBr'.out HN.out HM2.out HT2.out HM3.out HT3.out⟩
                  case measure => simp [intOf]; omega
          · have hkb : (o.kind != 1) = true := by simp [hkd]
            have HK := hide hkd
            clear hkd
            go_wp2
            go_roundw
            case rel =>
              refine ⟨m + 1, by omega, by go_num, M, L, ?_, HB2.out.alloc hsz _, HO2.out.alloc _, HLat.out.alloc _⟩
              rw [HE.out, owStep_read HK.out]
            case measure => simp [intOf]; omega
        · go_wp2
          go_roundw
          case rel =>
            refine ⟨k + 1, by omega, by go_num, HB2.out, ?_⟩
            have e3 : t.ops.take m = t.ops := List.take_of_length_le (by omega)
            have e4 : owAll (T.take (k + 1)) = L := by
              unfold owAll
              rw [foldl_snoc _ _ _ _ hlt, ← HTk.out]
              have := HF.out
              rw [e3] at this
              show owTxn (owAll (T.take k)) t = L
              unfold owTxn
              rw [this]
            rw [e4]
            exact HO2.out
          case measure => simp [intOf]; omega
    · go_wp2
      go_ret
      refine ⟨_, rfl, ?_, HB.out⟩
      have e3 : T.take k = T := List.take_of_length_le (by omega)
      have := HO.out
      rw [e3] at this
      exact this
end Go.Proofs.Qxb6602646a
