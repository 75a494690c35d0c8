/-
  zzCloneLists (31); ZZNewWriterSet with keys (28).
-/
import Derived.Test.Qxb6602646aEqs
namespace Go.Proofs.Qxb6602646a
open Go.RowKit

/-- The array at a holds the lists LL. -/
def ListsAt (S : Nat → Prop) (w : World) (a : Option Addr) (LL : List (List Int)) : Prop :=
  0 < LL.length → ∃ b off, a = some ⟨b, off, none⟩ ∧ S b ∧ ∀ i (h : i < LL.length), ∃ a' c', w.cell? ⟨b, off + i, none⟩ = some (.slice a' LL[i].length c') ∧ IntsAt .i64 S w a' LL[i]
theorem ListsAt.kept {S : Nat → Prop} {w w' : World} {a : Option Addr} {LL : List (List Int)} (h : ListsAt S w a LL) (k : SameOn S w w') : ListsAt S w' a LL := fun hl => by
  obtain ⟨b, off, ha, hb, hx⟩ := h hl
  refine ⟨b, off, ha, hb, fun i hi => ?_⟩
  obtain ⟨a', c', h1, h2⟩ := hx i hi
  exact ⟨a', c', (k.cell hb).trans h1, h2.kept k⟩
def obs (tvs : List Value) : List Nat := tvs.flatMap fun v => v.ownBlock.toList
theorem obs_snoc (tvs : List Value) (v : Value) : obs (tvs ++ [v]) = obs tvs ++ v.ownBlock.toList := by simp [obs]
/-- The values own the lists, each in blocks of its own, from B on. -/
structure OwnL (B : Nat) (w : World) (tvs : List Value) (LL : List (List Int)) : Prop where
  len : tvs.length = LL.length
  each : ∀ i (h : i < tvs.length) (h' : i < LL.length), IOwn w tvs[i] LL[i]
  nodup : (obs tvs).Nodup
  lo : ∀ b ∈ obs tvs, B ≤ b
  hi : ∀ b ∈ obs tvs, b < w.heap.size
theorem mem_obs {tvs : List Value} {i : Nat} (h : i < tvs.length) {g : Nat} (hg : tvs[i].ownBlock = some g) : g ∈ obs tvs := List.mem_flatMap.2 ⟨tvs[i], List.getElem_mem _, by simp [hg]⟩
theorem OwnL.kept {B : Nat} {w w' : World} {tvs : List Value} {LL : List (List Int)} (h : OwnL B w tvs LL) (hs : w.heap.size ≤ w'.heap.size) (k : ∀ b ∈ obs tvs, w'.heap[b]? = w.heap[b]?) : OwnL B w' tvs LL :=
  ⟨h.len, fun i h1 h2 => (h.each i h1 h2).kept (fun g hg => k g (mem_obs h1 hg)), h.nodup, h.lo, fun b hb => Nat.lt_of_lt_of_le (h.hi b hb) hs⟩
theorem OwnL.grow {B : Nat} {w w' : World} {tvs : List Value} {LL : List (List Int)} (h : OwnL B w tvs LL) (k : Below w.heap.size w w') : OwnL B w' tvs LL :=
  h.kept k.size (fun b hb => k.block b (h.hi b hb))
theorem OwnL.snoc {B : Nat} {w : World} {tvs : List Value} {LL : List (List Int)} {v : Value} {l : List Int} (h : OwnL B w tvs LL) (ho : IOwn w v l) (hv : ∀ b, v.ownBlock = some b → B ≤ b ∧ b ∉ obs tvs) : OwnL B w (tvs ++ [v]) (LL ++ [l]) := by
  refine ⟨by simp [h.len], fun i h1 h2 => ?_, ?_, fun b hb => ?_, fun b hb => ?_⟩
  · by_cases e : i < tvs.length
    · rw [List.getElem_append_left e, List.getElem_append_left (by rw [← h.len]; exact e)]
      exact h.each i e _
    · obtain rfl : i = tvs.length := by simp at h1; omega
      have e1 : (tvs ++ [v])[tvs.length] = v := by simp
      have e2 : (LL ++ [l])[tvs.length]'h2 = l := by simp [h.len]
      rw [e1, e2]
      exact ho
  · rw [obs_snoc, List.nodup_append]
    refine ⟨h.nodup, by cases v.ownBlock <;> simp, fun a ha b hb => ?_⟩
    have hb : v.ownBlock = some b := by simpa using hb
    rintro rfl
    exact (hv a hb).2 ha
  · rw [obs_snoc] at hb
    rcases List.mem_append.1 hb with hb | hb
    · exact h.lo b hb
    · exact (hv b (by simpa using hb)).1
  · rw [obs_snoc] at hb
    rcases List.mem_append.1 hb with hb | hb
    · exact h.hi b hb
    · exact ho.lt (by simpa using hb)
/-- A clone of numbers, as a value that owns them. -/
theorem clone_own {a : Option Addr} {l : List Int} {w : World} {e : Ending} {w' : World} (h : clonePost 3 a l w e w') (hl : l.length ≤ 1048576) : ∃ ta tc, e = .returned (.slice ta l.length tc) ∧ IOwn w' (.slice ta l.length tc) l ∧ (∀ b, (Value.slice ta l.length tc).ownBlock = some b → w.heap.size ≤ b) ∧ Below w.heap.size w w' := by
  rcases h with ⟨_, rfl, rfl, rfl⟩ | ⟨_, rfl, h1, h2, h3⟩
  · exact ⟨none, 0, rfl, IOwn.nil _, fun b hb => (by cases hb), Below.refl _ _⟩
  · exact ⟨_, _, rfl, IOwn.of_row h1 (by unfold maxLen; omega), fun b hb => by cases hb; exact Nat.le_refl _, h3⟩

theorem info42 : (Try.prog.info? 42).map (fun i => (i.zero, i.size, i.bytes)) = some (some (.slice none 0 0), 1, 24) := by kernel_rfl
theorem eql_nil58 (w : World) (a : Option Addr) (n c : Nat) : (binOp .eql 58 (.slice a n c) (.slice none 0 0)).run Try.prog w = .ok (.bool a.isNone) w := Lib.run_eql_slice_nil w 58 42 a n c 0 0 Try.underlying58
def clPost (LL : List (List Int)) (w : World) (e : Ending) (w' : World) : Prop :=
  ∃ a c tvs, e = .returned (.slice a LL.length c) ∧ (0 < LL.length → ∃ g, a = some ⟨g, 0, none⟩ ∧ g < w'.heap.size ∧ ∀ i (h : i < tvs.length), w'.cell? ⟨g, i, none⟩ = some tvs[i]) ∧ OwnL w.heap.size w' tvs LL ∧ Below w.heap.size w w'
def CLo (LL : List (List Int)) (w : World) (k : Nat) (wr : World) : Prop :=
  ∃ tvs f, wr.rowIs w.heap.size 42 LL.length f ∧ (∀ i (h : i < tvs.length), f i = tvs[i]) ∧ OwnL w.heap.size wr tvs (LL.take k) ∧ w.heap.size ∉ obs tvs ∧ Below w.heap.size w wr
theorem CLo.step {LL : List (List Int)} {w wr w1 : World} {k : Nat} (h : CLo LL w k wr) (hk : k < LL.length) {v : Value} (hb : Below wr.heap.size wr w1) (ho : IOwn w1 v LL[k]) (hv : ∀ b, v.ownBlock = some b → wr.heap.size ≤ b) : CLo LL w (k + 1) (w1.setCell ⟨w.heap.size, k, none⟩ v) := by
  obtain ⟨tvs, f, h1, h2, h3, h4, h5⟩ := h
  have hlt := h1.lt
  have hlen : tvs.length = k := by rw [h3.len, List.length_take]; omega
  have r1 := (h1.of_block (hb.block _ hlt)).set k v
  have same : ∀ b, b ≠ w.heap.size → (w1.setCell ⟨w.heap.size, k, none⟩ v).heap[b]? = w1.heap[b]? := fun b hb => Below.heap_setCell _ _ _ _ hb
  have hsz : (w1.setCell ⟨w.heap.size, k, none⟩ v).heap.size = w1.heap.size := by simp [World.setCell]
  have hne : ∀ b, v.ownBlock = some b → b ≠ w.heap.size := fun b hb e => by have := hv b hb; omega
  refine ⟨tvs ++ [v], _, r1, fun i hi => ?_, ?_, ?_, (h5.trans (hb.mono (Nat.le_of_lt hlt))).setCell (p := ⟨w.heap.size, k, none⟩) (by simp) v⟩
  · by_cases e : i < tvs.length
    · rw [List.getElem_append_left e, if_neg (by omega)]
      exact h2 i e
    · obtain rfl : i = tvs.length := by simp at hi; omega
      rw [if_pos hlen]
      simp
  · rw [List.take_succ_eq_append_getElem hk]
    have g1 := (h3.grow hb).kept (w' := w1.setCell ⟨w.heap.size, k, none⟩ v) (Nat.le_of_eq hsz.symm) (fun b hb => same b (fun e => h4 (e ▸ hb)))
    refine g1.snoc (ho.kept (fun g hg => same g (hne g hg))) (fun b hb => ⟨Nat.le_trans (Nat.le_of_lt hlt) (hv b hb), fun hm => ?_⟩)
    have := h3.hi b hm
    have := hv b hb
    omega
  · rw [obs_snoc]
    intro hm
    rcases List.mem_append.1 hm with hm | hm
    · exact h4 hm
    · exact hne _ (by simpa using hm) rfl

set_option maxHeartbeats 1000000 in
set_option maxRecDepth 20000 in
theorem lists31 (a : Option Addr) (c : Nat) (S : Nat → Prop) (LL : List (List Int)) (w : World) (h : ListsAt S w a LL) (hS : ∀ b, S b → b < w.heap.size) (hnil : a = none → LL.length = 0) (hn : LL.length ≤ 4096) (hl : ∀ i (h : i < LL.length), LL[i].length ≤ 1048576) :
    Calls Try.prog 31 #[.slice a LL.length c] w (clPost LL w) := by
  have q58 := eql_nil58
  cases a with
  | none =>
    have h0 : LL = [] := List.eq_nil_of_length_eq_zero (hnil rfl)
    subst h0
    clear h hS hnil hn hl
    show Calls Try.prog 31 #[.slice none 0 c] w _
    go_enter Try.func31, Try.ntmps31
    go_wp2
    go_ret
    exact ⟨none, 0, [], rfl, fun h => absurd h (by simp), ⟨rfl, fun i h => absurd h (by simp), by simp [obs], fun b hb => by simp [obs] at hb, fun b hb => by simp [obs] at hb⟩, Below.refl _ _⟩
  | some ad =>
    have HL := hide h
    have HS := hide hS
    have HLl := hide hl
    have hmk := fun w => run_make_rows (P := Try.prog) 58 42 #[.slice none 0 0] 1 24 Try.underlying58 (.slice none 0 0) rfl info42 .i64 .i64 LL.length (by omega) (by omega) w
    clear h hS hnil hl
    go_enter Try.func31, Try.ntmps31
    go_wp2
    go_loopw [12] (fun i wr => ∃ k : Nat, k ≤ LL.length ∧ i = .int .i64 k ∧ CLo LL w k wr) (fun i _ => LL.length - (intOf i).toNat)
    case atStart =>
      refine ⟨0, Nat.zero_le _, rfl, [], _, (by simpa using rowIs_made w #[.slice none 0 0] (LL.length * 1) 42), fun i h => absurd h (by simp), ⟨rfl, fun i h => absurd h (by simp), by simp [obs], fun b hb => by simp [obs] at hb, fun b hb => by simp [obs] at hb⟩, by simp [obs], (Below.refl _ _).alloc (Nat.le_refl _) _⟩
    case round =>
      rename World => wr
      obtain ⟨k, hk, rfl, hC⟩ := hrel
      have HC := hide hC
      obtain ⟨_, f, hf, _, _, _, hB⟩ := hC
      have hwr := hB.size
      by_cases hlt : k < LL.length
      · obtain ⟨b, off, hab, hbS, hx⟩ := HL.out (by omega)
        cases hab
        obtain ⟨a', c', p1, p2⟩ := hx k hlt
        have hbw := HS.out b hbS
        have f1 := (hB.cell (p := ⟨b, off + k, none⟩) hbw).trans p1
        have C29 := hide (cloneInts_any a' c' S LL[k] wr (p2.kept (fun x hx => hB.block x (HS.out x hx))) (fun x hx => Nat.lt_of_lt_of_le (HS.out x hx) hwr) (HLl.out k hlt))
        have HCl := hide (fun e w' (h : clonePost 3 a' LL[k] wr e w') => clone_own h (HLl.out k hlt))
        have HSt := hide (fun (w1 : World) (v : Value) (hb : Below wr.heap.size wr w1) (ho : IOwn w1 v LL[k]) hv => HC.out.step hlt hb ho hv)
        have hfl := hf.lt
        have R1 := hide (fun (w1 : World) (h : Below wr.heap.size wr w1) => (hf.of_block (h.block _ hfl)).cell (show k < LL.length by omega))
        have Z1 := hide (fun (w1 : World) (h : Below wr.heap.size wr w1) => (hf.of_block (h.block _ hfl)).frozen k)
        generalize LL[k] = l at f1 C29 HCl HSt
        generalize hu : f k = u at R1
        have hki : (k : Int) < (LL.length : Int) := by omega
        have hk0 : (0 : Int) ≤ (k : Int) := by omega
        clear p1 p2 hx hf hB hu
        go_wp2_with (go_at_call 29; refine C29.out.mono ?_; intro e w1 hcl; obtain ⟨ta, tc, rfl, hown, hblk, hB1⟩ := HCl.out _ _ hcl; have q1 := R1.out w1 hB1; have q2 := Z1.out w1 hB1; have HN := hide (HSt.out w1 _ hB1 hown hblk); clear hcl hown hblk hB1)
        go_roundw
        case rel => exact ⟨k + 1, by omega, by go_num, HN.out⟩
        case measure => simp [intOf]; omega
      · clear hB hf
        go_wp2
        go_ret
        obtain rfl : k = LL.length := by omega
        obtain ⟨tvs, f, h1, h2, h3, h4, h5⟩ := HC.out
        rw [List.take_length] at h3
        refine ⟨_, LL.length, tvs, rfl, fun _ => ⟨w.heap.size, rfl, h1.lt, fun i hi => ?_⟩, h3, h5⟩
        rw [h1.cell (by rw [← h3.len]; exact hi), h2 i hi]
end Go.Proofs.Qxb6602646a
