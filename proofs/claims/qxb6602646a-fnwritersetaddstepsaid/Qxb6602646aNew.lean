/-
  ZZNewWriterSet with keys (28).
-/
import Derived.Test.Qxb6602646aCL
namespace Go.Proofs.Qxb6602646a
open Go.RowKit

structure ZI where
  key : Int
  rnd : Int
  tv : Value
  tx : List Int
def zOf (p : Int × CRec) : ZI := ⟨p.1, p.2.rnd, p.2.tv, p.2.tx⟩
/-- k records are laid. -/
structure Nw (w : World) (Z : List ZI) (k : Nat) (recs : List (Int × CRec)) (wr : World) : Prop where
  map : MapAt ikey wr w.heap.size (ptrs recs)
  is : recs.map zOf = Z.take k
  row : ∀ p ∈ recs, wr.rowIs p.2.kb 108 2 (kwc p.2.rnd p.2.tv)
  kbs : (recs.map fun p => p.2.kb).Nodup
  lo : ∀ p ∈ recs, w.heap.size < p.2.kb
  bel : Below w.heap.size w wr
theorem Nw.grow {w wr w' : World} {Z : List ZI} {k : Nat} {recs : List (Int × CRec)} (h : Nw w Z k recs wr) (b : Below wr.heap.size wr w') : Nw w Z k recs w' :=
  ⟨h.map.kept (b.block _ h.map.lt), h.is, fun p hp => (h.row p hp).of_block (b.block _ (h.row p hp).lt), h.kbs, h.lo, h.bel.trans (b.mono h.bel.size)⟩
theorem rec_row (w : World) (r : Int) (v : Value) : (w.alloc (.cells #[.int .i64 r, v] 108)).rowIs w.heap.size 108 2 (kwc r v) := by
  refine ⟨_, (MapKept.heap_alloc w _).1, rfl, fun i hi => ?_⟩
  match i, hi with
  | 0, _ => rfl
  | 1, _ => rfl
theorem Nw.step {w wr w1 : World} {Z : List ZI} {k : Nat} {recs : List (Int × CRec)} (h : Nw w Z k recs wr) (hk : k < Z.length) (hnd : (Z.map fun z => z.key).Nodup)
    (hm : MapAt ikey w1 w.heap.size (up (ptrs recs) Z[k].key (.pointer (some ⟨wr.heap.size, 0, none⟩)))) (ht : Turned (wr.alloc (.cells #[.int .i64 Z[k].rnd, Z[k].tv] 108)).drew w1 w.heap.size) :
    Nw w Z (k + 1) (recs ++ [(Z[k].key, ⟨wr.heap.size, Z[k].rnd, Z[k].tv, Z[k].tx⟩)]) w1 := by
  have hlt := h.map.lt
  have hb : Below wr.heap.size wr (wr.alloc (.cells #[.int .i64 Z[k].rnd, Z[k].tv] 108)).drew := ((Below.refl _ _).alloc (Nat.le_refl _) _).drew
  have hg := h.grow hb
  have hne : ∀ p ∈ recs, p.1 ≠ Z[k].key := fun p hp e => by
    obtain ⟨i, hi, rfl⟩ := List.getElem_of_mem hp
    have hl : recs.length = k := by
      have := congrArg List.length h.is
      rw [List.length_map, List.length_take] at this
      omega
    have e1 : (recs.map zOf)[i]'(by simpa using hi) = (Z.take k)[i]'(by rw [List.length_take]; omega) := by simp only [h.is]
    rw [List.getElem_map, List.getElem_take] at e1
    have e2 : Z[i].key = Z[k].key := by rw [← e, ← e1]; rfl
    have := (List.pairwise_iff_getElem.1 hnd) i k (by simp; omega) (by simpa using hk) (by omega)
    apply this
    simpa using e2
  refine ⟨?_, ?_, fun p hp => ?_, ?_, fun p hp => ?_, Turned.below hg.bel (Nat.le_refl _) ht⟩
  · rw [← up_fresh (R := ⟨wr.heap.size, Z[k].rnd, Z[k].tv, Z[k].tx⟩) hne]
    exact hm
  · rw [List.map_append, h.is, List.take_succ_eq_append_getElem hk]
    rfl
  · rcases List.mem_append.1 hp with hp | hp
    · exact (hg.row p hp).of_block (ht.block _ (fun e => row_ne_map (hg.row p hp) hg.map e))
    · simp at hp
      subst hp
      exact World.rowIs.of_block (rec_row wr Z[k].rnd Z[k].tv) (ht.block wr.heap.size (by omega))
  · rw [List.map_append, List.nodup_append]
    refine ⟨h.kbs, by simp, fun a ha b hb => ?_⟩
    simp at hb
    subst hb
    obtain ⟨p, hp, rfl⟩ := List.mem_map.1 ha
    have := (h.row p hp).lt
    omega
  · rcases List.mem_append.1 hp with hp | hp
    · exact h.lo p hp
    · simp at hp
      subst hp
      exact hlt
def new28Post (w : World) (hp : Value) (rnd : Int) (av : Value) (Z : List ZI) (e : Ending) (w' : World) : Prop :=
  ∃ recs wr, Nw w Z Z.length recs wr ∧ e = .returned (.pointer (some ⟨wr.heap.size, 0, none⟩)) ∧ w' = wr.alloc (.cells #[hp, .int .i64 rnd, av, .map (some w.heap.size)] 110)
set_option maxHeartbeats 1000000 in
set_option maxRecDepth 20000 in
theorem new28 (hp : Option Addr) (rnd : Int) (aa ka ra la : Option Addr) (an ac kc rc lc : Nat) (S : Nat → Prop) (Z : List ZI) (w : World) (hK : IntsAt .i64 S w ka (Z.map fun z => z.key)) (hR : IntsAt .i64 S w ra (Z.map fun z => z.rnd))
    (hL : 0 < Z.length → ∃ g, la = some ⟨g, 0, none⟩ ∧ S g ∧ ∀ i (h : i < Z.length), ∃ ta tc, Z[i].tv = .slice ta Z[i].tx.length tc ∧ w.cell? ⟨g, i, none⟩ = some (.slice ta Z[i].tx.length tc)) (hS : ∀ b, S b → b < w.heap.size) (hn : Z.length ≤ 4096) (hnd : (Z.map fun z => z.key).Nodup) :
    Calls Try.prog 28 #[.pointer hp, .int .i64 rnd, .slice aa an ac, .slice ka Z.length kc, .slice ra Z.length rc, .slice la Z.length lc] w (new28Post w (.pointer hp) rnd (.slice aa an ac) Z) := by
  have HK := hide hK
  have HR := hide hR
  have HL := hide hL
  have HS := hide hS
  have HND := hide hnd
  clear hK hR hL hS hnd
  have hmk := fun w => mk_map w 105
  go_enter Try.func28, Try.ntmps28
  go_wp2
  go_loopw [18] (fun i wr => ∃ k : Nat, k ≤ Z.length ∧ i = .int .i64 k ∧ ∃ recs, Nw w Z k recs wr) (fun i _ => Z.length - (intOf i).toNat)
  case atStart => exact ⟨0, Nat.zero_le _, rfl, [], MapAt.made ikey w, rfl, fun p hp => by simp at hp, by simp, fun p hp => by simp at hp, (Below.refl _ _).alloc (Nat.le_refl _) _⟩
  case round =>
    rename World => wr
    obtain ⟨k, hk, rfl, recs, hN⟩ := hrel
    have HN := hide hN
    have hwr := hN.bel.size
    have hml := hN.map.lt
    clear hN
    by_cases hlt : k < Z.length
    · obtain ⟨b1, o1, rfl, hb1, hx1⟩ := HK.out (by simp; omega)
      obtain ⟨b2, o2, rfl, hb2, hx2⟩ := HR.out (by simp; omega)
      obtain ⟨g, rfl, hg, hx3⟩ := HL.out (by omega)
      have hl1 := HS.out b1 hb1
      have hl2 := HS.out b2 hb2
      have hl3 := HS.out g hg
      obtain ⟨ta, tc, ht1, ht2⟩ := hx3 k hlt
      have p1 := hx1 k (by simpa using hlt)
      have p2 := hx2 k (by simpa using hlt)
      rw [List.getElem_map] at p1 p2
      have f1 := (HN.out.bel.cell (p := ⟨b1, o1 + k, none⟩) hl1).trans p1
      have f2 := (HN.out.bel.cell (p := ⟨b2, o2 + k, none⟩) hl2).trans p2
      have f3 := (HN.out.bel.cell (p := ⟨g, k, none⟩) hl3).trans ht2
      have HSt := hide (fun (w1 : World) hm ht => HN.out.step (w1 := w1) hlt HND.out hm ht)
      rw [ht1] at HSt
      generalize Z[k].key = ky at f1 HSt
      generalize Z[k].rnd = rd at f2 HSt
      generalize hnl : Z[k].tx.length = nl at f3 HSt
      obtain ⟨w1, hrun, hm1, hT1⟩ := run_update_at (w := (wr.alloc (.cells #[.int .i64 rd, .slice ta nl tc] 108)).drew) (int_enc Try.underlying2) Try.underlying105 (HN.out.map.alloc _) ky (.pointer (some ⟨wr.heap.size, 0, none⟩))
      have hrun : (Instr.mapUpdate 105 (.map (some w.heap.size)) (.int .i64 ky) (.pointer (some ⟨wr.heap.size, 0, none⟩))).run Try.prog (wr.alloc (.cells #[.int .i64 rd, .slice ta nl tc] 108)).drew = .ok () w1 := hrun
      have HNx := hide (HSt.out w1 hm1 hT1)
      have c1 := cal f1 (.cells #[.int .i64 rd, .slice ta nl tc] 108)
      have c2 := cal f2 (.cells #[.int .i64 rd, .slice ta nl tc] 108)
      have c3 := cal f3 (.cells #[.int .i64 rd, .slice ta nl tc] 108)
      have hki : (k : Int) < (Z.length : Int) := by omega
      have hk0 : (0 : Int) ≤ (k : Int) := by omega
      have n1 : b1 ≠ wr.heap.size := by omega
      have n2 : b2 ≠ wr.heap.size := by omega
      have n3 : g ≠ wr.heap.size := by omega
      clear p1 p2 hx1 hx2 hx3 ht1 ht2 HSt hm1 hT1 hnl
      go_wp2
      go_big_region
      go_wp2
      go_roundw
      case rel => exact ⟨k + 1, by omega, by go_num, _, HNx.out⟩
      case measure => simp [intOf]; omega
    · go_wp2
      go_ret
      obtain rfl : k = Z.length := by omega
      exact ⟨recs, wr, HN.out, rfl, rfl⟩
end Go.Proofs.Qxb6602646a
