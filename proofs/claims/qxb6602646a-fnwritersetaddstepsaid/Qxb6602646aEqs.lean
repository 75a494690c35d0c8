/-
  ZZAdded (34), ZZKeyWriters (35), zzIntsEqualOne (37), zzIntsEqual (38), zzIntsEqualPlus (39), ZZByKeyLen (40).
-/
import Derived.Test.Qxb6602646aScr2
namespace Go.Proofs.Qxb6602646a
open Go.RowKit

def tPost (w : World) (e : Ending) (w' : World) : Prop := e = .returned (.bool true) ∧ Below w.heap.size w w'
set_option maxHeartbeats 400000 in
theorem eq37 (a : Option Addr) (c : Nat) (t : Int) (w : World) (hA : IntsAt .i64 (· < w.heap.size) w a [t]) : Calls Try.prog 37 #[.slice a 1 c, .int .i64 t] w (tPost w) := by
  obtain ⟨b, off, rfl, hb, hx⟩ := hA (by simp)
  have f1 := hx 0 (by simp)
  simp only [Nat.add_zero, List.getElem_cons_zero] at f1
  clear hA hx
  go_enter Try.func37, Try.ntmps37
  go_wp2
  go_ret
  exact ⟨by simp, Below.refl _ _⟩
set_option maxHeartbeats 400000 in
theorem eq38 (a b : Option Addr) (c d : Nat) (l : List Int) (w : World) (hA : IntsAt .i64 (· < w.heap.size) w a l) (hB : IntsAt .i64 (· < w.heap.size) w b l) (hl : l.length ≤ 2097153) :
    Calls Try.prog 38 #[.slice a l.length c, .slice b l.length d] w (tPost w) := by
  have HA := hide hA
  have HB := hide hB
  clear hA hB
  go_enter Try.func38, Try.ntmps38
  go_wp2
  go_loopw [13] (fun i wr => ∃ k : Nat, k ≤ l.length ∧ i = .int .i64 k ∧ Below w.heap.size w wr) (fun i _ => l.length - (intOf i).toNat)
  case atStart => exact ⟨0, Nat.zero_le _, rfl, Below.refl _ _⟩
  case round =>
    rename World => wr
    obtain ⟨k, hk, rfl, hW⟩ := hrel
    have HW := hide hW
    clear hW
    by_cases hlt : k < l.length
    · obtain ⟨b1, o1, rfl, hb1, hy1⟩ := HA.out (by omega)
      obtain ⟨b2, o2, rfl, hb2, hy2⟩ := HB.out (by omega)
      have f1 := (HW.out.cell (p := ⟨b1, o1 + k, none⟩) hb1).trans (hy1 k hlt)
      have f2 := (HW.out.cell (p := ⟨b2, o2 + k, none⟩) hb2).trans (hy2 k hlt)
      generalize l[k] = q at f1 f2
      have hji : (k : Int) < (l.length : Int) := by omega
      have hj0 : (0 : Int) ≤ (k : Int) := by omega
      clear hy1 hy2
      go_wp2
      go_quiet (fail)
      go_wp2
      go_roundw
      case rel => exact ⟨k + 1, by omega, by go_num, below_drewN HW.out _⟩
      case measure => simp [intOf]; omega
    · go_wp2
      go_ret
      exact ⟨rfl, HW.out⟩
set_option maxHeartbeats 400000 in
theorem eq39 (a b : Option Addr) (c d : Nat) (l : List Int) (t : Int) (w : World) (hA : IntsAt .i64 (· < w.heap.size) w a (l ++ [t])) (hB : IntsAt .i64 (· < w.heap.size) w b l) (hl : l.length ≤ 2097153) :
    Calls Try.prog 39 #[.slice a (l.length + 1) c, .slice b l.length d, .int .i64 t] w (tPost w) := by
  obtain ⟨b1, o1, rfl, hb1, hy1⟩ := hA (by simp)
  have HY := hide hy1
  have HB := hide hB
  have f0 := hy1 l.length (by simp)
  have e0 : (l ++ [t])[l.length]'(by simp) = t := by simp
  rw [e0] at f0
  have HF := hide f0
  clear hA hB hy1 e0 f0
  obtain ⟨n, hn⟩ : ∃ n, n = l.length := ⟨_, rfl⟩
  rw [← hn] at hl HF
  rw [← hn]
  have HN := hide hn
  clear hn
  go_enter Try.func39, Try.ntmps39
  go_wp2
  go_loopw [16] (fun i wr => ∃ k : Nat, k ≤ n ∧ i = .int .i64 k ∧ Below w.heap.size w wr) (fun i _ => n - (intOf i).toNat)
  case atStart => exact ⟨0, Nat.zero_le _, rfl, Below.refl _ _⟩
  case round =>
    rename World => wr
    obtain ⟨k, hk, rfl, hW⟩ := hrel
    have HW := hide hW
    clear hW
    by_cases hlt : k < n
    · have hkl : k < l.length := by rw [← HN.out]; exact hlt
      obtain ⟨b2, o2, rfl, hb2, hy2⟩ := HB.out (by omega)
      have hy1 := HY.out k (by simp; omega)
      rw [List.getElem_append_left hkl] at hy1
      have f1 := (HW.out.cell (p := ⟨b1, o1 + k, none⟩) hb1).trans hy1
      have f2 := (HW.out.cell (p := ⟨b2, o2 + k, none⟩) hb2).trans (hy2 k hkl)
      generalize l[k] = q at f1 f2
      have hji : (k : Int) < (n : Int) := by omega
      have hj0 : (0 : Int) ≤ (k : Int) := by omega
      have hj1 : (k : Int) < (n : Int) + 1 := by omega
      clear hy1 hy2 hkl
      go_wp2
      go_quiet (fail)
      go_wp2
      go_roundw
      case rel => exact ⟨k + 1, by omega, by go_num, below_drewN HW.out _⟩
      case measure => simp [intOf]; omega
    · have f1 := (HW.out.cell (p := ⟨b1, o1 + n, none⟩) hb1).trans HF.out
      have hj1 : (n : Int) < (n : Int) + 1 := by omega
      have hj0 : (0 : Int) ≤ (n : Int) := by omega
      go_wp2
      go_ret
      exact ⟨by simp, HW.out⟩

def valPost (v : Value) (w : World) (e : Ending) (w' : World) : Prop := e = .returned v ∧ w' = w
set_option maxHeartbeats 400000 in
theorem added34 {wb : Nat} {a : Option Addr} {n c : Nat} {w : World} (h : w.cell? ⟨wb, 2, none⟩ = some (.slice a n c)) : Calls Try.prog 34 #[.pointer (some ⟨wb, 0, none⟩)] w (valPost (.slice a n c) w) := by
  go_enter Try.func34, Try.ntmps34
  go_wp2
  go_ret
  exact ⟨rfl, rfl⟩
def keyPost (r : Int) (tx : List Int) (w : World) (e : Ending) (w' : World) : Prop :=
  ∃ a c, e = .returned (.tuple #[.bool true, .int .i64 r, .slice a tx.length c]) ∧ IntsAt .i64 (· < w'.heap.size) w' a tx ∧ Below w.heap.size w w'
theorem own_ints {w : World} {v : Value} {l : List Int} (h : IOwn w v l) : ∃ ad cap, v = .slice ad l.length cap ∧ IntsAt .i64 (· < w.heap.size) w ad l := by
  rcases h.form with ⟨rfl, rfl⟩ | ⟨g, cap, rfl, h1, _, h3, f, h4, h5⟩
  · exact ⟨none, 0, rfl, fun h => absurd h (by simp)⟩
  · refine ⟨_, cap, rfl, fun _ => ⟨g, 0, rfl, h3, fun j hj => ?_⟩⟩
    rw [Nat.zero_add, h4.cell (show j < cap by omega), h5 j hj]
theorem ints_grow {w w' : World} {a : Option Addr} {l : List Int} (h : IntsAt .i64 (· < w.heap.size) w a l) (k : Below w.heap.size w w') : IntsAt .i64 (· < w'.heap.size) w' a l :=
  (h.kept (SameOn.of_below k)).mono fun _ hb => Nat.lt_of_lt_of_le hb k.size
set_option maxHeartbeats 400000 in
theorem key35 {Fp : Nat → Prop} {w : World} {wb mb : Nat} {hp av : Value} {rnd : Int} {al : List Int} {recs : List (Int × CRec)} (h : WsAt Fp w wb hp rnd av al mb recs) (k : Int) {r : Int} {tx : List Int} (hk : lkG (absR recs) k = some (r, tx)) :
    Calls Try.prog 35 #[.pointer (some ⟨wb, 0, none⟩), .int .i64 k] w (keyPost r tx w) := by
  have c3 : w.cell? ⟨wb, 3, none⟩ = some (.map (some mb)) := h.row.cell (show 3 < 4 by omega)
  have HM := hide h.map
  rcases kw_lookup h k with ⟨e1, e2⟩ | ⟨R, e1, e2, hR⟩
  · rw [e2] at hk; cases hk
  · rw [e2] at hk
    obtain ⟨rfl, rfl⟩ : R.rnd = r ∧ R.tx = tx := by cases hk; exact ⟨rfl, rfl⟩
    have hv : (lk (ptrs recs) k).getD (.pointer none) = .pointer (some ⟨R.kb, 0, none⟩) := by rw [e1]; rfl
    obtain ⟨ad, cap, htv, hI⟩ := own_ints hR.2
    have d0 : w.cell? ⟨R.kb, 0, none⟩ = some (.int .i64 R.rnd) := hR.1.cell (show 0 < 2 by omega)
    have d1 : w.cell? ⟨R.kb, 1, none⟩ = some R.tv := hR.1.cell (show 1 < 2 by omega)
    rw [htv] at d1
    have HI := hide hI
    clear h e1 e2 hR htv hI hk
    go_enter Try.func35, Try.ntmps35
    go_wp2_with (at_lookup; refine wpList_lookup_one rfl _ _ 105 2 106 rfl (int_enc Try.underlying2) Try.underlying105 HM.out (.pointer none) (by kernel_rfl) k rfl rfl _ hv ?_)
    go_quiet (fail)
    go_wp2
    have hb := below_drewN (Below.refl w.heap.size w) nq
    refine bodyPost_ret (v := .tuple #[.bool true, .int .i64 R.rnd, .slice ad R.tx.length cap]) (by simp [results, Try.results35, go_sem]) rfl ⟨ad, cap, rfl, ints_grow HI.out hb, hb⟩
set_option maxHeartbeats 400000 in
theorem len40 {Fp : Nat → Prop} {w : World} {wb mb : Nat} {hp av : Value} {rnd : Int} {al : List Int} {recs : List (Int × CRec)} (h : WsAt Fp w wb hp rnd av al mb recs) :
    Calls Try.prog 40 #[.pointer (some ⟨wb, 0, none⟩)] w (intPost ((absR recs).length : Nat) w) := by
  have c3 : w.cell? ⟨wb, 3, none⟩ = some (.map (some mb)) := h.row.cell (show 3 < 4 by omega)
  have HM := hide h.map
  have e : (ptrs recs).length = (absR recs).length := by simp [ptrs, absR]
  rw [← e]
  clear h e
  go_enter Try.func40, Try.ntmps40
  go_wp2_with (at_len; refine wpList_len_at rfl _ 105 2 106 rfl Try.underlying105 HM.out rfl ?_)
  go_ret
  exact ⟨rfl, rfl⟩
end Go.Proofs.Qxb6602646a
