/-
  zzCopyRows (8).
-/
import Derived.Test.Qxb6603480aQ1
namespace Go.Proofs.Qxb6603480a
open Go.RowKit

theorem info26 : (Try.prog.info? 26).map (fun i => (i.zero, i.size, i.bytes)) = some (some (.slice none 0 0), 1, 24) := by kernel_rfl
theorem info31 : (Try.prog.info? 31).map (fun i => (i.zero, i.size, i.bytes)) = some (some (.int .u32 0), 1, 4) := by kernel_rfl
theorem eql_nil22 (w : World) (a : Option Addr) (n c : Nat) : (binOp .eql 22 (.slice a n c) (.slice none 0 0)).run Try.prog w = .ok (.bool a.isNone) w := Lib.run_eql_slice_nil w 22 26 a n c 0 0 Try.underlying22
theorem neq_nil26 (w : World) (a : Option Addr) (n c : Nat) : (binOp .neq 26 (.slice a n c) (.slice none 0 0)).run Try.prog w = .ok (.bool (!a.isNone)) w := run_neq_slice_nil_any w 26 31 a n c 0 0 Try.underlying26
def copyPost (L : List (List Int)) (w : World) (e : Ending) (w' : World) : Prop :=
  ∃ a' c', e = .returned (.slice a' L.length c') ∧ RowsAt .u32 (fun b => w.heap.size ≤ b ∧ b < w'.heap.size) w' a' L ∧ Below w.heap.size w w'
/-- k rows are copied. -/
def CpO (L : List (List Int)) (w : World) (k : Nat) (wr : World) : Prop :=
  Below w.heap.size w wr ∧ ∃ f, wr.rowIs w.heap.size 26 L.length f ∧ ∀ i (h : i < L.length), i < k → ∃ a' c', f i = .slice a' L[i].length c' ∧ IntsAt .u32 (fun b => w.heap.size < b ∧ b < wr.heap.size) wr a' L[i]
def CpI (l : List Int) (wr : World) (m : Nat) (wi : World) : Prop :=
  Below wr.heap.size wr wi ∧ ∃ f, wi.rowIs wr.heap.size 31 l.length f ∧ ∀ j (h : j < l.length), j < m → f j = .int .u32 l[j]
theorem CpI.step {l : List Int} {wr wi : World} {m : Nat} (h : CpI l wr m wi) (hm : m < l.length) : CpI l wr (m + 1) (wi.setCell ⟨wr.heap.size, m, none⟩ (.int .u32 l[m])) := by
  obtain ⟨h1, f, h2, h3⟩ := h
  refine ⟨h1.setCell (p := ⟨wr.heap.size, m, none⟩) (by simp) _, _, h2.set m _, fun j hj hjm => ?_⟩
  by_cases e : j = m
  · subst e; rw [if_pos rfl]
  · rw [if_neg e]; exact h3 j hj (by omega)
theorem CpO.step {L : List (List Int)} {w wr wi : World} {k : Nat} (h : CpO L w k wr) (hk : k < L.length) (hi : CpI L[k] wr L[k].length wi) : CpO L w (k + 1) (wi.setCell ⟨w.heap.size, k, none⟩ (.slice (some ⟨wr.heap.size, 0, none⟩) L[k].length L[k].length)) := by
  obtain ⟨h1, f, h2, h3⟩ := h
  obtain ⟨g1, fi, g2, g3⟩ := hi
  have hlt := h2.lt
  have hil := g2.lt
  have r1 := (h2.of_block (g1.block _ hlt)).set k (.slice (some ⟨wr.heap.size, 0, none⟩) L[k].length L[k].length)
  have same : ∀ b, b ≠ w.heap.size → (wi.setCell ⟨w.heap.size, k, none⟩ (.slice (some ⟨wr.heap.size, 0, none⟩) L[k].length L[k].length)).heap[b]? = wi.heap[b]? := fun b hb => Below.heap_setCell _ _ _ _ hb
  have hsz : (wi.setCell ⟨w.heap.size, k, none⟩ (.slice (some ⟨wr.heap.size, 0, none⟩) L[k].length L[k].length)).heap.size = wi.heap.size := by simp [World.setCell]
  refine ⟨(h1.trans (g1.mono (Nat.le_of_lt hlt))).setCell (p := ⟨w.heap.size, k, none⟩) (by simp) _, _, r1, fun i hi2 hik => ?_⟩
  by_cases e : i = k
  · subst e
    rw [if_pos rfl]
    refine ⟨_, _, rfl, fun _ => ⟨wr.heap.size, 0, rfl, ⟨hlt, by rw [hsz]; exact hil⟩, fun j hj => ?_⟩⟩
    rw [Nat.zero_add, World.cell?_of_block (w := wi) (a := ⟨wr.heap.size, j, none⟩) (same _ (by simp; omega)), g2.cell hj, g3 j hj hj]
  · rw [if_neg e]
    obtain ⟨a', c', e1, e2⟩ := h3 i hi2 (by omega)
    refine ⟨a', c', e1, (e2.kept (fun b hb => ?_)).mono (fun b hb => ?_)⟩
    · rw [same b (by have := hb.1; omega)]
      exact g1.block b hb.2
    · rw [hsz]; exact ⟨hb.1, Nat.lt_of_lt_of_le hb.2 g1.size⟩
set_option maxHeartbeats 1000000 in
set_option maxRecDepth 20000 in
theorem copy8 (a : Option Addr) (c : Nat) (S : Nat → Prop) (L : List (List Int)) (w : World) (hL : RowsAt .u32 S w a L) (hS : ∀ b, S b → b < w.heap.size) (hnil : a = none → L.length = 0) (hn : L.length ≤ 4096) (hr : ∀ i (h : i < L.length), 1 ≤ L[i].length ∧ L[i].length ≤ 4096) :
    Calls Try.prog 8 #[.slice a L.length c] w (copyPost L w) := by
  have q22 := eql_nil22
  have q26 := neq_nil26
  cases a with
  | none =>
    have h0 : L = [] := List.eq_nil_of_length_eq_zero (hnil rfl)
    subst h0
    clear hL hS hnil hn hr
    show Calls Try.prog 8 #[.slice none 0 c] w _
    go_enter Try.func8, Try.ntmps8
    go_wp2
    go_ret
    exact ⟨none, 0, rfl, fun h => absurd h (by simp), Below.refl _ _⟩
  | some ad =>
    have HL := hide hL
    have HS := hide hS
    have HR := hide hr
    have hmk := fun w => run_make_rows (P := Try.prog) 22 26 #[.slice none 0 0] 1 24 Try.underlying22 (.slice none 0 0) rfl info26 .i64 .i64 L.length (by omega) (by omega) w
    clear hL hS hnil hr
    go_enter Try.func8, Try.ntmps8
    go_wp2
    go_loopw [4] (fun i wr => ∃ k : Nat, k ≤ L.length ∧ i = .int .i64 k ∧ CpO L w k wr) (fun i _ => L.length - (intOf i).toNat)
    case atStart => exact ⟨0, Nat.zero_le _, rfl, (Below.refl _ _).alloc (Nat.le_refl _) _, _, (by simpa using rowIs_made w #[.slice none 0 0] (L.length * 1) 26), fun i _ h => absurd h (Nat.not_lt_zero _)⟩
    case round =>
      rename World => wr
      obtain ⟨k, hk, rfl, hC⟩ := hrel
      have HC := hide hC
      obtain ⟨hB, f, hf, _⟩ := hC
      have hwr := hB.size
      by_cases hlt : k < L.length
      · obtain ⟨b, off, hab, hbS, hx⟩ := HL.out (by omega)
        cases hab
        obtain ⟨a', c', p1, p2⟩ := hx k hlt
        have hbw := HS.out b hbS
        obtain ⟨hr1, hr2⟩ := HR.out k hlt
        have f1 := (hB.cell (p := ⟨b, off + k, none⟩) hbw).trans p1
        have HSt := hide (fun wi (hi : CpI L[k] wr L[k].length wi) => HC.out.step hlt hi)
        have hfl := hf.lt
        have R1 := hide (fun (w1 : World) (h : Below wr.heap.size wr w1) => (hf.of_block (h.block _ hfl)).cell (show k < L.length by omega))
        have Z1 := hide (fun (w1 : World) (h : Below wr.heap.size wr w1) => (hf.of_block (h.block _ hfl)).frozen k)
        obtain ⟨b2, o2, rfl, hb2, hx2⟩ := p2 (by omega)
        have hb2w := HS.out b2 hb2
        have HX2 := hide hx2
        generalize L[k] = l at f1 HSt hr1 hr2 HX2 hx2 p1 p2
        generalize hu : f k = u at R1
        have hki : (k : Int) < (L.length : Int) := by omega
        have hk0 : (0 : Int) ≤ (k : Int) := by omega
        have hmk2 := fun w => run_make_rows (P := Try.prog) 26 31 #[.int .u32 0] 1 4 Try.underlying26 (.int .u32 0) rfl info31 .i64 .i64 l.length (by omega) (by omega) w
        have hbr : b < wr.heap.size := by omega
        have hb2r : b2 < wr.heap.size := by omega
        have HBr := hide hB
        clear p1 p2 hx hx2 hf hB hu
        go_wp2
        go_loopw [6] (fun i wi => ∃ m : Nat, m ≤ l.length ∧ i = .int .i64 m ∧ CpI l wr m wi) (fun i _ => l.length - (intOf i).toNat)
        case atStart => exact ⟨0, Nat.zero_le _, rfl, (Below.refl _ _).alloc (Nat.le_refl _) _, _, (by simpa using rowIs_made wr #[.int .u32 0] (l.length * 1) 31), fun j _ h => absurd h (Nat.not_lt_zero _)⟩
        case round =>
          rename World => wi
          obtain ⟨m, hm, rfl, hI⟩ := hrel
          have HI := hide hI
          obtain ⟨hBi, fi, hfi, _⟩ := hI
          have hwi := hBi.size
          by_cases hml : m < l.length
          · have y1 := (hBi.cell (p := ⟨b, off + k, none⟩) hbr).trans f1
            have y2 := (hBi.cell (p := ⟨b2, o2 + m, none⟩) hb2r).trans ((HBr.out.cell (p := ⟨b2, o2 + m, none⟩) hb2w).trans (HX2.out m hml))
            have y3 := hfi.cell (show m < l.length by omega)
            have z3 := hfi.frozen m
            have HNx := hide (HI.out.step hml)
            generalize l[m] = x at y2 HNx
            generalize fi m = u2 at y3
            have hmi : (m : Int) < (l.length : Int) := by omega
            have hm0 : (0 : Int) ≤ (m : Int) := by omega
            clear hBi hfi f1
            go_wp2
            go_roundw
            case rel => exact ⟨m + 1, by omega, by go_num, HNx.out⟩
            case measure => simp [intOf]; omega
          · obtain rfl : m = l.length := by omega
            have q1 := R1.out wi hBi
            have q2 := Z1.out wi hBi
            have HNx := hide (HSt.out wi HI.out)
            clear hBi hfi f1
            go_wp2
            go_roundw
            case rel => exact ⟨k + 1, by omega, by go_num, HNx.out⟩
            case measure => simp [intOf]; omega
      · clear hB hf
        go_wp2
        go_ret
        obtain rfl : k = L.length := by omega
        obtain ⟨h1, f, h2, h3⟩ := HC.out
        refine ⟨_, L.length, rfl, fun _ => ⟨w.heap.size, 0, rfl, ⟨Nat.le_refl _, h2.lt⟩, fun i hi => ?_⟩, h1⟩
        obtain ⟨a', c', e1, e2⟩ := h3 i hi hi
        exact ⟨a', c', by rw [Nat.zero_add, h2.cell hi, e1], e2.mono fun b hb => ⟨by have := hb.1; omega, hb.2⟩⟩
end Go.Proofs.Qxb6603480a
