/-
  The small walks: zzBytes (5, 14), zzQueueBytes (6), zzQueueShape (7), zzEqualU32 (13).
-/
import Derived.Test.Qxb6603480aRows
import Derived.Test.Qxb6603480aMem
namespace Go.Proofs.Qxb6603480a
open Go.RowKit

def someBool (w : World) (e : Ending) (w' : World) : Prop := (∃ r, e = .returned (.bool r)) ∧ w' = w
def someInt (w : World) (e : Ending) (w' : World) : Prop := (∃ r, e = .returned (.int .i64 r)) ∧ w' = w
set_option maxHeartbeats 400000 in
theorem bytes5 (a b : Option Addr) (c d : Nat) (h : Int) (S : Nat → Prop) (O C : List (List Int)) (w : World) (hO : RowsAt .u32 S w a O) (hC : RowsAt .u32 S w b C) (hn : O.length ≤ maxLen) (hn2 : C.length ≤ maxLen) :
    Calls Try.prog 5 #[.slice a O.length c, .slice b C.length d, .int .i64 h] w (someBool w) := by
  unfold maxLen at hn hn2
  go_enter Try.func5, Try.ntmps5
  go_wp2
  · go_ret; exact ⟨⟨_, rfl⟩, rfl⟩
  go_loop [7, 8] (fun s i => ∃ k : Nat, k ≤ O.length ∧ i = .int .i64 k ∧ ∃ n : Int, s = .int .i64 n) (fun _ i => O.length - (intOf i).toNat)
  case atStart => exact ⟨0, Nat.zero_le _, rfl, _, rfl⟩
  case round =>
    obtain ⟨k, hk, rfl, s, rfl⟩ := hrel
    by_cases hlt : k < O.length
    · obtain ⟨b', off, rfl, hb, hx⟩ := hO (by omega)
      obtain ⟨a', c', h3, _⟩ := hx k hlt
      clear hx
      generalize O[k].length = L at h3
      go_wp2
      · go_ret; exact ⟨⟨_, rfl⟩, rfl⟩
      · go_ret; exact ⟨⟨_, rfl⟩, rfl⟩
      · go_round
        case rel => exact ⟨k + 1, by omega, by go_num, _, rfl⟩
        case measure => simp [intOf]; omega
    · go_wp2
      · go_ret; exact ⟨⟨_, rfl⟩, rfl⟩
      · go_ret; exact ⟨⟨_, rfl⟩, rfl⟩
      go_loop [7, 9] (fun s i => ∃ k : Nat, k ≤ C.length ∧ i = .int .i64 k ∧ ∃ n : Int, s = .int .i64 n) (fun _ i => C.length - (intOf i).toNat)
      case atStart => exact ⟨0, Nat.zero_le _, rfl, _, rfl⟩
      case round =>
        obtain ⟨k2, hk2, rfl, s2, rfl⟩ := hrel
        by_cases hlt2 : k2 < C.length
        · obtain ⟨b', off, rfl, hb, hx⟩ := hC (by omega)
          obtain ⟨a', c', h3, _⟩ := hx k2 hlt2
          clear hx
          generalize C[k2].length = L at h3
          go_wp2
          · go_ret; exact ⟨⟨_, rfl⟩, rfl⟩
          · go_ret; exact ⟨⟨_, rfl⟩, rfl⟩
          · go_round
            case rel => exact ⟨k2 + 1, by omega, by go_num, _, rfl⟩
            case measure => simp [intOf]; omega
        · go_wp2
          go_ret; exact ⟨⟨_, rfl⟩, rfl⟩
set_option maxHeartbeats 400000 in
theorem bytes14 (a b : Option Addr) (c d : Nat) (h : Int) (S : Nat → Prop) (O C : List (List Int)) (w : World) (hO : RowsAt .u32 S w a O) (hC : RowsAt .u32 S w b C) (hn : O.length ≤ maxLen) (hn2 : C.length ≤ maxLen) :
    Calls Try.prog 14 #[.slice a O.length c, .slice b C.length d, .int .i64 h] w (someBool w) := by
  unfold maxLen at hn hn2
  go_enter Try.func14, Try.ntmps14
  go_wp2
  · go_ret; exact ⟨⟨_, rfl⟩, rfl⟩
  go_loop [7, 8] (fun s i => ∃ k : Nat, k ≤ O.length ∧ i = .int .i64 k ∧ ∃ n : Int, s = .int .i64 n) (fun _ i => O.length - (intOf i).toNat)
  case atStart => exact ⟨0, Nat.zero_le _, rfl, _, rfl⟩
  case round =>
    obtain ⟨k, hk, rfl, s, rfl⟩ := hrel
    by_cases hlt : k < O.length
    · obtain ⟨b', off, rfl, hb, hx⟩ := hO (by omega)
      obtain ⟨a', c', h3, _⟩ := hx k hlt
      clear hx
      generalize O[k].length = L at h3
      go_wp2
      · go_ret; exact ⟨⟨_, rfl⟩, rfl⟩
      · go_ret; exact ⟨⟨_, rfl⟩, rfl⟩
      · go_round
        case rel => exact ⟨k + 1, by omega, by go_num, _, rfl⟩
        case measure => simp [intOf]; omega
    · go_wp2
      · go_ret; exact ⟨⟨_, rfl⟩, rfl⟩
      · go_ret; exact ⟨⟨_, rfl⟩, rfl⟩
      go_loop [7, 9] (fun s i => ∃ k : Nat, k ≤ C.length ∧ i = .int .i64 k ∧ ∃ n : Int, s = .int .i64 n) (fun _ i => C.length - (intOf i).toNat)
      case atStart => exact ⟨0, Nat.zero_le _, rfl, _, rfl⟩
      case round =>
        obtain ⟨k2, hk2, rfl, s2, rfl⟩ := hrel
        by_cases hlt2 : k2 < C.length
        · obtain ⟨b', off, rfl, hb, hx⟩ := hC (by omega)
          obtain ⟨a', c', h3, _⟩ := hx k2 hlt2
          clear hx
          generalize C[k2].length = L at h3
          go_wp2
          · go_ret; exact ⟨⟨_, rfl⟩, rfl⟩
          · go_ret; exact ⟨⟨_, rfl⟩, rfl⟩
          · go_round
            case rel => exact ⟨k2 + 1, by omega, by go_num, _, rfl⟩
            case measure => simp [intOf]; omega
        · go_wp2
          go_ret; exact ⟨⟨_, rfl⟩, rfl⟩
set_option maxHeartbeats 400000 in
theorem qbytes6 (a b : Option Addr) (c d : Nat) (S : Nat → Prop) (O C : List (List Int)) (w : World) (hO : RowsAt .u32 S w a O) (hC : RowsAt .u32 S w b C) (hn : O.length ≤ 4096) (hn2 : C.length ≤ 4096) :
    Calls Try.prog 6 #[.slice a O.length c, .slice b C.length d] w (someInt w) := by
  go_enter Try.func6, Try.ntmps6
  go_wp2
  go_loop [5, 6] (fun s i => ∃ k : Nat, k ≤ O.length ∧ i = .int .i64 k ∧ ∃ n : Int, s = .int .i64 n) (fun _ i => O.length - (intOf i).toNat)
  case atStart => exact ⟨0, Nat.zero_le _, rfl, _, rfl⟩
  case round =>
    obtain ⟨k, hk, rfl, s, rfl⟩ := hrel
    by_cases hlt : k < O.length
    · obtain ⟨b', off, rfl, hb, hx⟩ := hO (by omega)
      obtain ⟨a', c', h3, _⟩ := hx k hlt
      clear hx
      generalize O[k].length = L at h3
      go_wp2
      · go_ret; exact ⟨⟨_, rfl⟩, rfl⟩
      · go_round
        case rel => exact ⟨k + 1, by omega, by go_num, _, rfl⟩
        case measure => simp [intOf]; omega
    · go_wp2
      go_loop [5, 7] (fun s i => ∃ k : Nat, k ≤ C.length ∧ i = .int .i64 k ∧ ∃ n : Int, s = .int .i64 n) (fun _ i => C.length - (intOf i).toNat)
      case atStart => exact ⟨0, Nat.zero_le _, rfl, _, rfl⟩
      case round =>
        obtain ⟨k2, hk2, rfl, s2, rfl⟩ := hrel
        by_cases hlt2 : k2 < C.length
        · obtain ⟨b', off, rfl, hb, hx⟩ := hC (by omega)
          obtain ⟨a', c', h3, _⟩ := hx k2 hlt2
          clear hx
          generalize C[k2].length = L at h3
          go_wp2
          · go_ret; exact ⟨⟨_, rfl⟩, rfl⟩
          · go_round
            case rel => exact ⟨k2 + 1, by omega, by go_num, _, rfl⟩
            case measure => simp [intOf]; omega
        · go_wp2
          go_ret; exact ⟨⟨_, rfl⟩, rfl⟩

/-! ### The shape -/
def EachP (O C : List (List Int)) (i : Nat) : Prop := ∀ (h1 : i < O.length) (h2 : i < C.length), C[i].length = O[i].length ∧ 1 ≤ O[i].length ∧ O[i].length ≤ 4096 ∧ (i + 1 < O.length → O[i].length = 4096)
structure ShapeP (O C : List (List Int)) (h : Int) : Prop where
  len : C.length = O.length
  each : ∀ i, EachP O C i
  head : (O.length = 0 ∧ h = 0) ∨ ∃ h0 : 0 < O.length, 0 ≤ h ∧ h ≤ O[0].length ∧ h < 4096
def shapePost (O C : List (List Int)) (h : Int) (w : World) (e : Ending) (w' : World) : Prop := (∃ r : Bool, e = .returned (.bool r) ∧ (r = true ↔ ShapeP O C h)) ∧ w' = w
set_option maxHeartbeats 1000000 in
theorem shape7 (a b : Option Addr) (c d : Nat) (h : Int) (S : Nat → Prop) (O C : List (List Int)) (w : World) (hO : RowsAt .u32 S w a O) (hC : RowsAt .u32 S w b C) (hn : O.length ≤ 4096) :
    Calls Try.prog 7 #[.slice a O.length c, .slice b C.length d, .int .i64 h] w (shapePost O C h w) := by
  have HO := hide hO
  have HC := hide hC
  clear hO hC
  by_cases hl : C.length = O.length
  case neg =>
    have hlb : ((C.length : Int) != (O.length : Int)) = true := by simp; omega
    have HN : Hid (¬ ShapeP O C h) := fun s => hl s.len
    clear hl
    go_enter Try.func7, Try.ntmps7
    go_wp2
    go_ret
    exact ⟨⟨false, rfl, ⟨fun h => (by cases h), fun s => absurd s HN.out⟩⟩, rfl⟩
  have HL := hide hl
  have hlb : ((C.length : Int) != (O.length : Int)) = false := by simp; omega
  clear hl
  go_enter Try.func7, Try.ntmps7
  go_wp2
  clear hlb
  go_loop [8] (fun i => ∃ k : Nat, k ≤ O.length ∧ i = .int .i64 k ∧ ∀ j, j < k → EachP O C j) (fun i => O.length - (intOf i).toNat)
  case atStart => exact ⟨0, Nat.zero_le _, rfl, fun j h => by omega⟩
  case round =>
    obtain ⟨k, hk, rfl, hall⟩ := hrel
    have HA := hide hall
    clear hall
    by_cases hlt : k < O.length
    · have hlc : k < C.length := by rw [HL.out]; exact hlt
      obtain ⟨b1, o1, rfl, hb1, hx1⟩ := HO.out (by omega)
      obtain ⟨b2, o2, rfl, hb2, hx2⟩ := HC.out (by omega)
      obtain ⟨a1, c1, f1, _⟩ := hx1 k hlt
      obtain ⟨a2, c2, f2, _⟩ := hx2 k hlc
      have HNo := hide (fun (hne : ¬ (C[k].length = O[k].length ∧ 1 ≤ O[k].length ∧ O[k].length ≤ 4096 ∧ (k + 1 < O.length → O[k].length = 4096))) (s : ShapeP O C h) => hne (s.each k hlt hlc))
      have HYes := hide (fun (hy : C[k].length = O[k].length ∧ 1 ≤ O[k].length ∧ O[k].length ≤ 4096 ∧ (k + 1 < O.length → O[k].length = 4096)) j (hj : j < k + 1) => show EachP O C j by
        by_cases e : j = k
        · subst e; exact fun _ _ => hy
        · exact HA.out j (by omega))
      clear hx1 hx2
      generalize O[k].length = m at f1 HNo HYes
      generalize C[k].length = m2 at f2 HNo HYes
      have hki : (k : Int) < (O.length : Int) := by omega
      have hk0 : (0 : Int) ≤ (k : Int) := by omega
      have hkc : (k : Int) < (C.length : Int) := by omega
      by_cases e1 : m2 = m
      case neg =>
        have eb : ((m2 : Int) != (m : Int)) = true := by simp; omega
        have HN := hide (HNo.out (fun q => e1 q.1))
        clear e1 HYes HNo
        go_wp2
        go_ret
        exact ⟨⟨false, rfl, ⟨fun h => (by cases h), fun s => absurd s HN.out⟩⟩, rfl⟩
      subst e1
      have eb : ((m2 : Int) != (m2 : Int)) = false := by simp
      by_cases e2 : 1 ≤ m2
      case neg =>
        have hz : m2 = 0 := by omega
        have HN := hide (HNo.out (fun q => e2 q.2.1))
        subst hz
        clear e2 HYes HNo
        go_wp2
        go_ret
        exact ⟨⟨false, rfl, ⟨fun h => (by cases h), fun s => absurd s HN.out⟩⟩, rfl⟩
      have d2 : decide ((m2 : Int) < 1) = false := by simp; omega
      have d2' : decide (m2 = 0) = false := by simp; omega
      by_cases e3 : m2 ≤ 4096
      case neg =>
        have d3 : (4096 : Int) < (m2 : Int) := by omega
        have HN := hide (HNo.out (fun q => e3 q.2.2.1))
        clear e3 HYes HNo
        go_wp2
        go_ret
        exact ⟨⟨false, rfl, ⟨fun h => (by cases h), fun s => absurd s HN.out⟩⟩, rfl⟩
      have d3 : decide ((4096 : Int) < (m2 : Int)) = false := by simp; omega
      have hwn : IntKind.i64.wrap ((O.length : Int) - 1) = (O.length : Int) - 1 := by rw [IntKind.wrap_i64]; omega
      by_cases e4 : k + 1 < O.length
      · have d4 : decide ((k : Int) < (O.length : Int) - 1) = true := by simp; omega
        have d4' : (k : Int) < (O.length : Int) - 1 := by omega
        by_cases e5 : m2 = 4096
        · subst e5
          have HY := hide (HYes.out ⟨rfl, e2, Nat.le_refl _, fun _ => rfl⟩)
          clear HYes HNo e2 e3
          go_wp2
          go_round
          case rel => exact ⟨k + 1, by omega, by go_num, HY.out⟩
          case measure => simp [intOf]; omega
        · have d5 : ((m2 : Int) != 4096) = true := by simp; omega
          have HN := hide (HNo.out (fun q => e5 (q.2.2.2 e4)))
          clear HYes HNo e2 e3 e5
          go_wp2
          go_ret
          exact ⟨⟨false, rfl, ⟨fun h => (by cases h), fun s => absurd s HN.out⟩⟩, rfl⟩
      · have d4 : decide ((k : Int) < (O.length : Int) - 1) = false := by simp; omega
        have HY := hide (HYes.out ⟨rfl, e2, e3, fun q => absurd q e4⟩)
        clear HYes HNo e2 e3
        go_wp2
        go_round
        case rel => exact ⟨k + 1, by omega, by go_num, HY.out⟩
        case measure => simp [intOf]; omega
    · have HE : Hid (∀ i, EachP O C i) := fun i => by
        by_cases hi : i < k
        · exact HA.out i hi
        · exact fun h1 _ => absurd h1 (by omega)
      obtain rfl : k = O.length := by omega
      by_cases hz : O.length = 0
      · have d0 : ((O.length : Int) == 0) = true := by simp [hz]
        by_cases hh : h = 0
        · subst hh
          have HS : Hid (ShapeP O C 0) := ⟨HL.out, HE.out, .inl ⟨hz, rfl⟩⟩
          clear hz
          generalize O.length = n at *
          go_wp2
          go_ret
          exact ⟨⟨true, rfl, ⟨fun _ => HS.out, fun _ => rfl⟩⟩, rfl⟩
        · have hhb : (h == 0) = false := by simpa using hh
          have HN : Hid (¬ ShapeP O C h) := fun s => by
            rcases s.head with ⟨_, q⟩ | ⟨q, _⟩
            · exact hh q
            · omega
          clear hz hh
          generalize O.length = n at *
          go_wp2
          go_ret
          exact ⟨⟨false, rfl, ⟨fun h => (by cases h), fun s => absurd s HN.out⟩⟩, rfl⟩
      · have hpos : 0 < O.length := by omega
        obtain ⟨b1, o1, rfl, hb1, hx1⟩ := HO.out hpos
        obtain ⟨a1, c1, f1, f1x⟩ := hx1 0 hpos
        clear f1x
        simp only [Nat.add_zero] at f1
        have HSY := hide (fun (q1 : 0 ≤ h) (q2 : h ≤ O[0].length) (q3 : h < 4096) => show ShapeP O C h from ⟨HL.out, HE.out, .inr ⟨hpos, q1, q2, q3⟩⟩)
        have HSN := hide (fun (s : ShapeP O C h) => show 0 ≤ h ∧ h ≤ O[0].length ∧ h < 4096 by
          rcases s.head with ⟨q, _⟩ | ⟨_, q⟩
          · omega
          · exact q)
        generalize O[0].length = m at f1 HSY HSN
        clear hx1 hz
        generalize hO : O.length = n at *
        have d0 : ((n : Int) == 0) = false := by simp; omega
        have i0 : (0 : Int) < (n : Int) := by omega
        by_cases g1 : 0 ≤ h
        case neg =>
          have d1 : decide ((0 : Int) ≤ h) = false := by simp; omega
          have HN : Hid (¬ ShapeP O C h) := fun s => g1 (HSN.out s).1
          clear g1 HSY HSN
          go_wp2
          go_ret
          exact ⟨⟨false, rfl, ⟨fun h => (by cases h), fun s => absurd s HN.out⟩⟩, rfl⟩
        have d1 : decide ((0 : Int) ≤ h) = true := by simp; omega
        by_cases g2 : h ≤ (m : Int)
        case neg =>
          have d2 : decide (h ≤ (m : Int)) = false := by simp; omega
          have HN : Hid (¬ ShapeP O C h) := fun s => g2 (HSN.out s).2.1
          clear g2 HSY HSN
          go_wp2
          go_ret
          exact ⟨⟨false, rfl, ⟨fun h => (by cases h), fun s => absurd s HN.out⟩⟩, rfl⟩
        have d2 : decide (h ≤ (m : Int)) = true := by simp; omega
        by_cases g3 : h < 4096
        case neg =>
          have d3 : decide (h < (4096 : Int)) = false := by simp; omega
          have HN : Hid (¬ ShapeP O C h) := fun s => g3 (HSN.out s).2.2
          clear g3 HSY HSN
          go_wp2
          go_ret
          exact ⟨⟨false, rfl, ⟨fun h => (by cases h), fun s => absurd s HN.out⟩⟩, rfl⟩
        have d3 : decide (h < (4096 : Int)) = true := by simp; omega
        have HS := hide (HSY.out g1 g2 g3)
        clear HSY HSN
        go_wp2
        go_ret
        exact ⟨⟨true, rfl, ⟨fun _ => HS.out, fun _ => rfl⟩⟩, rfl⟩

def tPost (w : World) (e : Ending) (w' : World) : Prop := e = .returned (.bool true) ∧ Below w.heap.size w w'
set_option maxHeartbeats 400000 in
theorem eq13 (a b : Option Addr) (c d : Nat) (l : List Int) (w : World) (hA : IntsAt .u32 (· < w.heap.size) w a l) (hB : IntsAt .u32 (· < w.heap.size) w b l) (hl : l.length ≤ 33554432) :
    Calls Try.prog 13 #[.slice a l.length c, .slice b l.length d] w (tPost w) := by
  have HA := hide hA
  have HB := hide hB
  clear hA hB
  go_enter Try.func13, Try.ntmps13
  go_wp2
  go_loopw [5] (fun i wr => ∃ k : Nat, k ≤ l.length ∧ i = .int .i64 k ∧ Below w.heap.size w wr) (fun i _ => l.length - (intOf i).toNat)
  case atStart => exact ⟨0, Nat.zero_le _, rfl, Below.refl _ _⟩
  case round =>
    rename World => wr
    obtain ⟨k, hk, rfl, hW⟩ := hrel
    have HW := hide hW
    clear hW
    by_cases hlt : k < l.length
    · obtain ⟨b1, o1, rfl, hb1, hy1⟩ := HA.out (by omega)
      obtain ⟨b2, o2, rfl, hb2, hy2⟩ := HB.out (by omega)
      have f1 := (HW.out.cell (p := ⟨b1, o1 + k, none⟩) hb1).trans (hy1 k hlt)
      have f2 := (HW.out.cell (p := ⟨b2, o2 + k, none⟩) hb2).trans (hy2 k hlt)
      generalize l[k] = q at f1 f2
      have hji : (k : Int) < (l.length : Int) := by omega
      have hj0 : (0 : Int) ≤ (k : Int) := by omega
      clear hy1 hy2
      go_wp2
      go_quiet (fail)
      go_wp2
      go_roundw
      case rel => exact ⟨k + 1, by omega, by go_num, below_drewN HW.out _⟩
      case measure => simp [intOf]; omega
    · go_wp2
      go_ret
      exact ⟨rfl, HW.out⟩
end Go.Proofs.Qxb6603480a
