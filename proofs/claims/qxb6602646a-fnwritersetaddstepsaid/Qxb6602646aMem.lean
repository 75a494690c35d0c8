/-
  MEMORY AS PLAIN DATA (no program's text in here): what a slice of transactions, of operations, of sessions, of numbers holds; maps as association lists; the laws at a look-up, a store and a len.
-/
import Derived.WalkKit
import Derived.WalkSpells
import Derived.WalkLawsBesides
import Derived.MapKept
import Derived.Maps.OwnSet
import Derived.Deep.OwnRows
import Derived.Laws.CopyOwn
import Derived.Deep.RegionHeld3
import Derived.BigQuiet
namespace Go.Proofs.Qxb6602646a
open Go.RowKit

structure POp where
  kind : Int
  key : Int
  val : Int
structure PTxn where
  id : Int
  ses : Int
  ops : List POp
structure PSes where
  id : Int
  txns : List Int

/-! ### Rows of cells. S: the blocks in which the data may lie. -/
def OpAt (w : World) (b o : Nat) (x : POp) : Prop :=
  w.cell? ⟨b, o, none⟩ = some (.int .u8 x.kind) ∧ w.cell? ⟨b, o + 1, none⟩ = some (.int .i64 x.key) ∧ w.cell? ⟨b, o + 2, none⟩ = some (.int .i64 x.val)
/-- The array at a holds the operations l. -/
def OpsAt (S : Nat → Prop) (w : World) (a : Option Addr) (l : List POp) : Prop :=
  0 < l.length → ∃ b off, a = some ⟨b, off, none⟩ ∧ S b ∧ ∀ j (h : j < l.length), OpAt w b (off + j * 3) l[j]
def TxnAt (S : Nat → Prop) (w : World) (b o : Nat) (x : PTxn) : Prop :=
  w.cell? ⟨b, o, none⟩ = some (.int .i64 x.id) ∧ w.cell? ⟨b, o + 1, none⟩ = some (.int .i64 x.ses) ∧
  ∃ a c, w.cell? ⟨b, o + 2, none⟩ = some (.slice a x.ops.length c) ∧ OpsAt S w a x.ops
def TxnsAt (S : Nat → Prop) (w : World) (a : Option Addr) (l : List PTxn) : Prop :=
  0 < l.length → ∃ b off, a = some ⟨b, off, none⟩ ∧ S b ∧ ∀ j (h : j < l.length), TxnAt S w b (off + j * 3) l[j]
/-- An array of numbers of kind q. -/
def IntsAt (q : IntKind) (S : Nat → Prop) (w : World) (a : Option Addr) (l : List Int) : Prop :=
  0 < l.length → ∃ b off, a = some ⟨b, off, none⟩ ∧ S b ∧ ∀ j (h : j < l.length), w.cell? ⟨b, off + j, none⟩ = some (.int q l[j])
def SesAt (S : Nat → Prop) (w : World) (b o : Nat) (x : PSes) : Prop :=
  w.cell? ⟨b, o, none⟩ = some (.int .i64 x.id) ∧ ∃ a c, w.cell? ⟨b, o + 1, none⟩ = some (.slice a x.txns.length c) ∧ IntsAt .i64 S w a x.txns
def SessAt (S : Nat → Prop) (w : World) (a : Option Addr) (l : List PSes) : Prop :=
  0 < l.length → ∃ b off, a = some ⟨b, off, none⟩ ∧ S b ∧ ∀ j (h : j < l.length), SesAt S w b (off + j * 2) l[j]

/-- On the blocks S the two worlds are one. -/
def SameOn (S : Nat → Prop) (w w' : World) : Prop := ∀ b, S b → w'.heap[b]? = w.heap[b]?
theorem SameOn.cell {S : Nat → Prop} {w w' : World} (k : SameOn S w w') {b o : Nat} (hb : S b) : w'.cell? ⟨b, o, none⟩ = w.cell? ⟨b, o, none⟩ := World.cell?_of_block (w := w) (k b hb)
theorem SameOn.of_below {B : Nat} {w w' : World} (h : Below B w w') : SameOn (· < B) w w' := fun b hb => h.block b hb
theorem SameOn.refl (S : Nat → Prop) (w : World) : SameOn S w w := fun _ _ => rfl
theorem SameOn.trans {S : Nat → Prop} {a b c : World} (h : SameOn S a b) (k : SameOn S b c) : SameOn S a c := fun x hx => (k x hx).trans (h x hx)
theorem SameOn.sub {S S' : Nat → Prop} {w w' : World} (h : SameOn S w w') (k : ∀ b, S' b → S b) : SameOn S' w w' := fun b hb => h b (k b hb)

section
variable {S S' : Nat → Prop} {w w' : World} {a : Option Addr} {b o : Nat}
theorem OpAt.kept {x : POp} (h : OpAt w b o x) (hb : S b) (k : SameOn S w w') : OpAt w' b o x :=
  ⟨(k.cell hb).trans h.1, (k.cell hb).trans h.2.1, (k.cell hb).trans h.2.2⟩
theorem OpsAt.kept {l : List POp} (h : OpsAt S w a l) (k : SameOn S w w') : OpsAt S w' a l := fun hl => by
  obtain ⟨b, off, ha, hb, hx⟩ := h hl
  exact ⟨b, off, ha, hb, fun j hj => (hx j hj).kept hb k⟩
theorem OpsAt.mono {l : List POp} (h : OpsAt S w a l) (k : ∀ b, S b → S' b) : OpsAt S' w a l := fun hl => by
  obtain ⟨b, off, ha, hb, hx⟩ := h hl
  exact ⟨b, off, ha, k b hb, hx⟩
theorem TxnAt.kept {x : PTxn} (h : TxnAt S w b o x) (hc : ∀ i, w'.cell? ⟨b, o + i, none⟩ = w.cell? ⟨b, o + i, none⟩) (k : SameOn S w w') : TxnAt S w' b o x := by
  obtain ⟨h1, h2, a, c, h3, h4⟩ := h
  exact ⟨(hc 0).trans h1, (hc 1).trans h2, a, c, (hc 2).trans h3, h4.kept k⟩
theorem TxnAt.mono {x : PTxn} (h : TxnAt S w b o x) (k : ∀ b, S b → S' b) : TxnAt S' w b o x := by
  obtain ⟨h1, h2, a, c, h3, h4⟩ := h
  exact ⟨h1, h2, a, c, h3, h4.mono k⟩
theorem TxnsAt.kept {l : List PTxn} (h : TxnsAt S w a l) (k : SameOn S w w') : TxnsAt S w' a l := fun hl => by
  obtain ⟨b, off, ha, hb, hx⟩ := h hl
  exact ⟨b, off, ha, hb, fun j hj => (hx j hj).kept (fun i => k.cell hb) k⟩
theorem TxnsAt.mono {l : List PTxn} (h : TxnsAt S w a l) (k : ∀ b, S b → S' b) : TxnsAt S' w a l := fun hl => by
  obtain ⟨b, off, ha, hb, hx⟩ := h hl
  exact ⟨b, off, ha, k b hb, fun j hj => (hx j hj).mono k⟩
theorem IntsAt.kept {q : IntKind} {l : List Int} (h : IntsAt q S w a l) (k : SameOn S w w') : IntsAt q S w' a l := fun hl => by
  obtain ⟨b, off, ha, hb, hx⟩ := h hl
  exact ⟨b, off, ha, hb, fun j hj => (k.cell hb).trans (hx j hj)⟩
theorem IntsAt.mono {q : IntKind} {l : List Int} (h : IntsAt q S w a l) (k : ∀ b, S b → S' b) : IntsAt q S' w a l := fun hl => by
  obtain ⟨b, off, ha, hb, hx⟩ := h hl
  exact ⟨b, off, ha, k b hb, hx⟩
theorem SesAt.kept {x : PSes} (h : SesAt S w b o x) (hc : ∀ i, w'.cell? ⟨b, o + i, none⟩ = w.cell? ⟨b, o + i, none⟩) (k : SameOn S w w') : SesAt S w' b o x := by
  obtain ⟨h1, a, c, h3, h4⟩ := h
  exact ⟨(hc 0).trans h1, a, c, (hc 1).trans h3, h4.kept k⟩
theorem SesAt.mono {x : PSes} (h : SesAt S w b o x) (k : ∀ b, S b → S' b) : SesAt S' w b o x := by
  obtain ⟨h1, a, c, h3, h4⟩ := h
  exact ⟨h1, a, c, h3, h4.mono k⟩
theorem SessAt.kept {l : List PSes} (h : SessAt S w a l) (k : SameOn S w w') : SessAt S w' a l := fun hl => by
  obtain ⟨b, off, ha, hb, hx⟩ := h hl
  exact ⟨b, off, ha, hb, fun j hj => (hx j hj).kept (fun i => k.cell hb) k⟩
theorem SessAt.mono {l : List PSes} (h : SessAt S w a l) (k : ∀ b, S b → S' b) : SessAt S' w a l := fun hl => by
  obtain ⟨b, off, ha, hb, hx⟩ := h hl
  exact ⟨b, off, ha, k b hb, fun j hj => (hx j hj).mono k⟩
end

/-! ### Maps as association lists -/
section maps
set_option linter.unusedSectionVars false
variable {κ : Type} [DecidableEq κ]
def fnd : List (κ × Value) → κ → Nat → Option (Nat × Value)
  | [], _, _ => none
  | p :: L, k, i => if p.1 = k then some (i, p.2) else fnd L k (i + 1)
def lk : List (κ × Value) → κ → Option Value
  | [], _ => none
  | p :: L, k => if p.1 = k then some p.2 else lk L k
def up : List (κ × Value) → κ → Value → List (κ × Value)
  | [], k, v => [(k, v)]
  | p :: L, k, v => if p.1 = k then (k, v) :: L else p :: up L k v
/-- The entries es are the list L, the keys written by enc. -/
def Rep (enc : κ → Value) (es : List MapEntry) (L : List (κ × Value)) : Prop :=
  es.map (fun e => (e.key, e.val)) = L.map (fun p => (enc p.1, p.2))
def MapAt (enc : κ → Value) (w : World) (r : Nat) (L : List (κ × Value)) : Prop :=
  ∃ es clock, w.heap[r]? = some (.map es clock) ∧ Rep enc es.toList L
/-- What the laws want of a key's type. -/
structure KeyEnc (P : Program) (kt : TypeId) (enc : κ → Value) : Prop where
  check : ∀ (em : Bool) (k : κ) (w : World), (Instr.checkKey em 10000 kt (enc k)).run P w = .ok () w
  find : ∀ (w : World) (es : List MapEntry) (L : List (κ × Value)) (k : κ), Rep enc es L → (Instr.findKey kt (enc k) es).run P w = .ok (fnd L k 0) w
  stays : ∀ (k : κ) (w : World), (Instr.keyThatStays (enc k) (enc k)).run P w = .ok (enc k) w

theorem fnd_lk (L : List (κ × Value)) (k : κ) : ∀ i, (fnd L k i).map (·.2) = lk L k := by
  induction L with
  | nil => intro i; rfl
  | cons p L ih =>
    intro i
    unfold fnd lk
    split
    · rfl
    · exact ih _
/-- What a find says of the entries: none, and the store pushes; or the place, and the store turns that entry. -/
theorem fnd_up {enc : κ → Value} {es : List MapEntry} {L : List (κ × Value)} (h : Rep enc es L) (k : κ) (v : Value) : ∀ i,
    (fnd L k i = none ∧ up L k v = L ++ [(k, v)]) ∨
    ∃ j e old, fnd L k i = some (i + j, old) ∧ es[j]? = some e ∧ e.key = enc k ∧ Rep enc (es.modify j fun e => { e with key := enc k, val := v }) (up L k v) := by
  induction L generalizing es with
  | nil => intro i; exact .inl ⟨rfl, rfl⟩
  | cons p L ih =>
    intro i
    cases es with
    | nil => simp [Rep] at h
    | cons e es =>
      simp only [Rep, List.map_cons, List.cons.injEq, Prod.mk.injEq] at h
      obtain ⟨⟨h1, h2⟩, h3⟩ := h
      by_cases hk : p.1 = k
      · right
        refine ⟨0, e, p.2, ?_, rfl, ?_, ?_⟩
        · simp [fnd, hk]
        · rw [h1, hk]
        · simp [Rep, up, hk, h3]
      · rcases ih h3 (i + 1) with ⟨a1, a2⟩ | ⟨j, e', old, a1, a2, a3, a4⟩
        · left
          simp [fnd, up, hk, a1, a2]
        · right
          refine ⟨j + 1, e', old, ?_, by simpa using a2, a3, ?_⟩
          · simp [fnd, hk, a1]; omega
          · simp only [Rep] at a4 ⊢
            simp [up, hk, h1, h2, a4]

theorem Rep.push {enc : κ → Value} {es : List MapEntry} {L : List (κ × Value)} (h : Rep enc es L) (k : κ) (v : Value) (c : Nat) : Rep enc (es ++ [{ key := enc k, val := v, born := c }]) (L ++ [(k, v)]) := by
  simp only [Rep] at h ⊢
  simp [h]
theorem Rep.length {enc : κ → Value} {es : List MapEntry} {L : List (κ × Value)} (h : Rep enc es L) : es.length = L.length := by
  have := congrArg List.length h
  simpa using this

section runs
variable {P : Program} {enc : κ → Value} {mt kt et : TypeId} {r : Nat} {L : List (κ × Value)} {w : World}

theorem run_lookup_at (K : KeyEnc P kt enc) (hm : P.underlying mt = some (.map kt et)) (h : MapAt enc w r L) (z : Value) (hz : (zeroValue et).run P w = .ok z w) (k : κ) (ok : Bool) :
    (Instr.lookup mt (.map (some r)) (enc k) ok).run P w = .ok (if ok then .tuple #[(lk L k).getD z, .bool (lk L k).isSome] else (lk L k).getD z) w := by
  obtain ⟨es, clock, hb, hr⟩ := h
  have hf := K.find w es.toList L k hr
  have he := fnd_lk L k 0
  cases hq : fnd L k 0 with
  | none =>
    rw [hq] at hf he
    simp only [Option.map_none] at he
    simp [Instr.lookup, run_underlying hm, MapKept.run_getObj_map hb, K.check, hf, hz, ← he]
  | some p =>
    rw [hq] at hf he
    simp only [Option.map_some] at he
    simp [Instr.lookup, run_underlying hm, MapKept.run_getObj_map hb, K.check, hf, ← he]
theorem run_lookup_nil (K : KeyEnc P kt enc) (hm : P.underlying mt = some (.map kt et)) (z : Value) (hz : (zeroValue et).run P w = .ok z w) (k : κ) (ok : Bool) :
    (Instr.lookup mt (.map none) (enc k) ok).run P w = .ok (if ok then .tuple #[z, .bool false] else z) w := by
  have hf := K.find w [] [] k rfl
  simp [Instr.lookup, run_underlying hm, K.check, hf, hz, fnd]
/-- w' is w but for the map in block r. -/
structure Turned (w w' : World) (r : Nat) : Prop where
  os : w'.os = w.os
  tape : w'.tape = w.tape
  output : w'.output = w.output
  size : w'.heap.size = w.heap.size
  block : ∀ k, k ≠ r → w'.heap[k]? = w.heap[k]?
theorem run_update_at (K : KeyEnc P kt enc) (hm : P.underlying mt = some (.map kt et)) (h : MapAt enc w r L) (k : κ) (v : Value) :
    ∃ w', (Instr.mapUpdate mt (.map (some r)) (enc k) v).run P w = .ok () w' ∧ MapAt enc w' r (up L k v) ∧ Turned w w' r := by
  obtain ⟨es, clock, hb, hr⟩ := h
  have hf := K.find w es.toList L k hr
  rcases fnd_up hr k v 0 with ⟨a1, a2⟩ | ⟨j, e, old, a1, a2, a3, a4⟩
  · rw [a1] at hf
    refine ⟨{ w with heap := w.heap.setIfInBounds r (.map (es.push { key := enc k, val := v, born := clock }) (clock + 1)) }, ?_, ⟨_, _, (MapKept.heap_set hb).1, ?_⟩, ⟨rfl, rfl, rfl, by simp, fun x hx => (MapKept.heap_set hb).2 x hx⟩⟩
    · simp [Instr.mapUpdate, run_underlying hm, MapKept.run_getObj_map hb, K.check, hf, MapKept.run_setObj_map _ hb]
    · rw [a2, Array.toList_push]
      exact hr.push k v clock
  · rw [a1] at hf
    have hj : es[j]? = some e := by simpa using a2
    refine ⟨{ w with heap := w.heap.setIfInBounds r (.map (es.modify j fun e => { e with key := enc k, val := v }) clock) }, ?_, ⟨_, _, (MapKept.heap_set hb).1, ?_⟩, ⟨rfl, rfl, rfl, by simp, fun x hx => (MapKept.heap_set hb).2 x hx⟩⟩
    · simp [Instr.mapUpdate, run_underlying hm, MapKept.run_getObj_map hb, K.check, hf, MapKept.run_setObj_map _ hb, hj, a3, K.stays]
    · simpa using a4
theorem run_len_at (ty : TypeId) (hm : P.underlying mt = some (.map kt et)) (h : MapAt enc w r L) : (Builtin.len_ #[mt] ty #[.map (some r)]).run P w = .ok (.int .i64 L.length) w := by
  obtain ⟨es, clock, hb, hr⟩ := h
  have hl : es.size = L.length := by have := hr.length; simpa using this
  simp [Builtin.len_, run_underlying hm, MapKept.run_getObj_map hb, goInt, hl]

/-! The laws at the operation, for the walk. -/
variable {ops : Array Oper} {rest : List Oper} {o : Oper} {a : Act} {Q : Exit → Act → World → Prop}
/-- 'v, ok := m[k]'. -/
theorem wpList_lookup_ok (hg : o.guard = none) (m x : Operand) (mt kt et : TypeId) (hop : o.op = Op.lookup mt m x true) (K : KeyEnc P kt enc) (hm : P.underlying mt = some (.map kt et))
    (h : MapAt enc w r L) (z : Value) (hz : (zeroValue et).run P w = .ok z w) (k : κ) (e1 : a.eval m = .map (some r)) (e2 : a.eval x = enc k) (v : Value) (b : Bool) (hv : (lk L k).getD z = v) (hb : (lk L k).isSome = b)
    (hK : wpList P ops Q rest (a.put o.dst (.tuple #[v, .bool b])) w) : wpList P ops Q (o :: rest) a w := by
  refine wpList_plain hg fun K' hK' => ?_
  have hrun := run_lookup_at K hm h z hz k true
  rw [if_pos rfl, hv, hb] at hrun
  unfold Oper.wp
  simp [execOp, hop, e1, e2, hrun, Result.andThen]
  exact hK' _ _ hK
/-- 'v := m[k]'. -/
theorem wpList_lookup_one (hg : o.guard = none) (m x : Operand) (mt kt et : TypeId) (hop : o.op = Op.lookup mt m x false) (K : KeyEnc P kt enc) (hm : P.underlying mt = some (.map kt et))
    (h : MapAt enc w r L) (z : Value) (hz : (zeroValue et).run P w = .ok z w) (k : κ) (e1 : a.eval m = .map (some r)) (e2 : a.eval x = enc k) (v : Value) (hv : (lk L k).getD z = v)
    (hK : wpList P ops Q rest (a.put o.dst v) w) : wpList P ops Q (o :: rest) a w := by
  refine wpList_plain hg fun K' hK' => ?_
  have hrun := run_lookup_at K hm h z hz k false
  rw [if_neg (by simp), hv] at hrun
  unfold Oper.wp
  simp [execOp, hop, e1, e2, hrun, Result.andThen]
  exact hK' _ _ hK
/-- 'm[k] = v'. -/
theorem wpList_update_at (hg : o.guard = none) (m x y : Operand) (mt kt et : TypeId) (hop : o.op = Op.mapUpdate mt m x y) (K : KeyEnc P kt enc) (hm : P.underlying mt = some (.map kt et))
    (h : MapAt enc w r L) (k : κ) (v : Value) (e1 : a.eval m = .map (some r)) (e2 : a.eval x = enc k) (e3 : a.eval y = v)
    (hK : ∀ w', MapAt enc w' r (up L k v) → Turned w w' r → wpList P ops Q rest (a.put o.dst undef) w') : wpList P ops Q (o :: rest) a w := by
  refine wpList_plain hg fun K' hK' => ?_
  obtain ⟨w', hrun, r1, r2⟩ := run_update_at K hm h k v
  unfold Oper.wp
  simp [execOp, hop, e1, e2, e3, hrun, Result.andThen]
  exact hK' _ _ (hK w' r1 r2)
/-- 'len(m)'. -/
theorem wpList_len_at (hg : o.guard = none) (m : Operand) (mt kt et : TypeId) (hop : o.op = Op.call { callee := Callee.builtin Builtin.len, args := #[m], argTypes := #[mt] }) (hm : P.underlying mt = some (.map kt et))
    (h : MapAt enc w r L) (e1 : a.eval m = .map (some r)) (hK : wpList P ops Q rest (a.put o.dst (.int .i64 L.length)) w) : wpList P ops Q (o :: rest) a w := by
  refine wpList_plain hg fun K' hK' => ?_
  unfold Oper.wp
  simp [execOp, hop, resolve, invoke, builtin, e1, run_len_at o.type hm h, Result.andThen]
  exact hK' _ _ hK
end runs

theorem MapAt.kept {enc : κ → Value} {w w' : World} {r : Nat} {L : List (κ × Value)} (h : MapAt enc w r L) (e : w'.heap[r]? = w.heap[r]?) : MapAt enc w' r L := by
  obtain ⟨es, c, h1, h2⟩ := h
  exact ⟨es, c, e.trans h1, h2⟩
theorem MapAt.lt {enc : κ → Value} {w : World} {r : Nat} {L : List (κ × Value)} (h : MapAt enc w r L) : r < w.heap.size := by
  obtain ⟨es, c, h1, h2⟩ := h
  exact (Array.getElem?_eq_some_iff.1 h1).1
theorem MapAt.made (enc : κ → Value) (w : World) : MapAt enc (w.alloc (.map #[] 0)) w.heap.size [] :=
  ⟨#[], 0, (MapKept.heap_alloc w _).1, rfl⟩
theorem MapAt.alloc {enc : κ → Value} {w : World} {r : Nat} {L : List (κ × Value)} (h : MapAt enc w r L) (o : Obj) : MapAt enc (w.alloc o) r L :=
  h.kept ((MapKept.heap_alloc w o).2 r h.lt)
end maps

theorem Turned.below {B r : Nat} {a w w' : World} (h : Below B a w) (hB : B ≤ r) (k : Turned w w' r) : Below B a w' :=
  h.trans ⟨k.os, k.tape, k.output, Nat.le_of_eq k.size.symm, fun i hi => k.block i (by omega)⟩
theorem Turned.cell {r : Nat} {w w' : World} (k : Turned w w' r) {p : Addr} (hp : p.block ≠ r) : w'.cell? p = w.cell? p := World.cell?_of_block (w := w) (k.block p.block hp)

/-! ### The two facts that the walk takes of a world of which 'Below' alone is known -/
theorem bcell {W w1 : World} {B : Nat} (hb : Below B W w1) : (∀ b o, b < B → w1.cell? ⟨b, o, none⟩ = W.cell? ⟨b, o, none⟩) ∧ (∀ b o, b < B → w1.frozen? ⟨b, o, none⟩ = W.frozen? ⟨b, o, none⟩) :=
  ⟨fun b o h => hb.cell (p := ⟨b, o, none⟩) h, fun b o h => hb.frozen (p := ⟨b, o, none⟩) h⟩

theorem undrew {B : Nat} {w w1 : World} (h : Below B w.drew w1) : Below B w w1 := ⟨h.os, h.tape, h.output, h.size, h.block⟩
theorem hide {p : Prop} (h : p) : Hid p := h
/-- A cell that is there is there behind a new block. -/
theorem cal {w : World} {a : Addr} {v : Value} (h : w.cell? a = some v) : ∀ o, (w.alloc o).cell? a = some v := fun o =>
  (World.cell?_of_block (w := w) ((MapKept.heap_alloc w o).2 a.block (World.block_lt_of_cell? w a h))).trans h
theorem cell_box (w : World) (c : Array Value) (t : TypeId) (i : Nat) (v : Value) (h : c[i]? = some v) : (w.alloc (.cells c t)).cell? ⟨w.heap.size, i, none⟩ = some v := by
  simp only [World.cell?, (MapKept.heap_alloc w (.cells c t)).1]
  simpa using h
/-- Behind an append onto a row of the call's own: what lies below the row's base. -/
theorem push_cell {W w1 : World} {v : Value} {base b o : Nat} (hg : W.grownBy w1 v.ownBlock) (hv : ∀ k, v.ownBlock = some k → base ≤ k) (hb : b < base) (hB : b < W.heap.size) : w1.cell? ⟨b, o, none⟩ = W.cell? ⟨b, o, none⟩ :=
  World.cell?_of_block (w := W) (hg.block b hB (fun e => by have := hv b e.symm; omega))
/-! ### A region that draws its order, whose operations read what was there and whose callees at most make new blocks: one walk in the text's order. The class of worlds: what lies beyond w by new blocks and draws. -/
structure Ext (w : World) where
  val : World
  prop : Below w.heap.size w val
theorem Ext.cell {w : World} (p : Ext w) (b o : Nat) (h : b < w.heap.size) : p.val.cell? ⟨b, o, none⟩ = w.cell? ⟨b, o, none⟩ := p.prop.cell (p := ⟨b, o, none⟩) h
theorem Ext.some (w : World) : Nonempty (Ext w) := ⟨⟨w, Below.refl _ _⟩⟩
theorem Ext.grow {w : World} (p : Ext w) {w' : World} (h : Below p.val.heap.size p.val w') : ∃ q : Ext w, w' = q.val := ⟨⟨w', p.prop.trans (h.mono p.prop.size)⟩, rfl⟩
theorem wp_region_ext {P : Program} {id : Nat} {Q : Exit → Act → World → Prop} {a : Act} {w : World} {l : List Oper} (hm : P.follows .mixedOrders = true) (hB : Region.lexB .any l.toArray = true)
    (h : wpQuiet P l.toArray (fun w' => ∃ p : Ext w, w' = p.val) (fun a' => ∀ w', (∃ p : Ext w, w' = p.val) → Q .normal a' w') l a) : (Code.region id l.toArray true).wp P Q a w :=
  wp_region_quiet (C := fun w' => ∃ p : Ext w, w' = p.val) hm hB ⟨⟨w.drew, (Below.refl _ _).drew⟩, rfl⟩ (by simpa using h)
/-- 'make([]T, n)': an equation for every world: a new row of n * size cells. -/
theorem run_make_rows {P : Program} (t e : TypeId) (zc : Array Value) (size bytes : Nat) (ht : P.underlying t = some (.slice e)) (z : Value) (hz : z.cells = zc) (hi : (P.info? e).map (fun i => (i.zero, i.size, i.bytes)) = some (some z, size, bytes))
    (kl kc : IntKind) (n : Nat) (hbytes : bytes * n ≤ 281474976710656) (h63 : n ≤ 9223372036854775807) (w : World) :
    (Instr.makeSlice t (.int kl (n : Int)) (.int kc (n : Int))).run P w = .ok (.slice (some ⟨w.heap.size, 0, none⟩) n n) (w.alloc (.cells (madeCells zc (n * size)) e)) := by
  obtain ⟨i, hi0, h1, h2, h3⟩ := info_parts hi
  subst h2 h3 hz
  have hb' : (i.bytes : Int) * (n : Int) ≤ 281474976710656 := by
    have h : ((i.bytes * n : Nat) : Int) ≤ 281474976710656 := by omega
    rwa [Int.natCast_mul] at h
  have hr := run_make (P := P) w t e i z ht hi0 h1 kl kc n n (by omega) (Int.le_refl _) hb' (by omega)
  simpa using hr
theorem rowIs_made (w : World) (zc : Array Value) (n : Nat) (t : TypeId) : (w.alloc (.cells (madeCells zc n) t)).rowIs w.heap.size t n (fun i => zc[i % zc.size]!) :=
  ⟨_, (MapKept.heap_alloc w _).1, size_madeCells _ _, fun i hi => by simp [madeCells, hi]⟩

/-- Keys that are int64. -/
def ikey (k : Int) : Value := .int .i64 k
theorem int_enc {P : Program} {kt : TypeId} (hk : P.underlying kt = some (.int .i64)) : KeyEnc P kt ikey where
  check em k w := MapKept.run_checkKey hk (by simp [ikey, MapKept.IsKey]) em 9999
  stays k w := MapKept.run_keyThatStays (d := .int .i64) (by simp [ikey, MapKept.IsKey])
  find w es L k h := by
    have : ∀ (es : List MapEntry) (L : List (Int × Value)) (i : Nat), Rep ikey es L → Instr.findNow (.int .i64) (ikey k) es i = some (fnd L k i) := by
      intro es
      induction es with
      | nil => intro L i h; cases L with
        | nil => rfl
        | cons p L => simp [Rep] at h
      | cons e es ih => intro L i h; cases L with
        | nil => simp [Rep] at h
        | cons p L =>
          simp only [Rep, List.map_cons, List.cons.injEq, Prod.mk.injEq] at h
          obtain ⟨⟨h1, h2⟩, h3⟩ := h
          have hs : Instr.sameNow (.int .i64) (ikey k) e.key = some (k == p.1) := by rw [h1]; simp [Instr.sameNow, ikey]
          by_cases hk : p.1 = k
          · have : (k == p.1) = true := by simp [hk]
            simp [Instr.findNow, hs, fnd, hk, h2]
          · have hn : (k == p.1) = false := by simp; omega
            rw [hn] at hs
            simp [Instr.findNow, hs, fnd, hk, ih L (i + 1) h3]
    exact MapKept.run_findKey hk (this es L 0 h)
end Go.Proofs.Qxb6602646a
