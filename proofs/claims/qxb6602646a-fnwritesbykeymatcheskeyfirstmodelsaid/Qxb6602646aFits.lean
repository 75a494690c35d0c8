/-
  The sizes of a history with sessions: zzBytes (9, 16), zzSessionsBytes (45), zzRefOps (46), zzHistoryFits (10).
-/
import Derived.Test.Qxb6602646aWbx
namespace Go.Proofs.Qxb6602646a
open Go.RowKit

set_option maxHeartbeats 400000 in
theorem bytes16 (a sa : Option Addr) (c sc : Nat) (S : Nat → Prop) (T : List PTxn) (SS : List PSes) (w : World) (hT : TxnsAt S w a T) (hSS : SessAt S w sa SS) (hn : T.length ≤ maxLen) (hn2 : SS.length ≤ maxLen) :
    Calls Try.prog 16 #[.slice a T.length c, .slice sa SS.length sc] w (someBool w) := by
  unfold maxLen at hn hn2
  go_enter Try.func16, Try.ntmps16
  go_wp2
  · go_ret; exact ⟨⟨_, rfl⟩, rfl⟩
  go_loop [5, 6] (fun s i => ∃ k : Nat, k ≤ T.length ∧ i = .int .i64 k ∧ ∃ n : Int, s = .int .i64 n) (fun _ i => T.length - (intOf i).toNat)
  case atStart => exact ⟨0, Nat.zero_le _, rfl, _, rfl⟩
  case round =>
    obtain ⟨k, hk, rfl, s, rfl⟩ := hrel
    by_cases hlt : k < T.length
    · obtain ⟨b, off, rfl, hb, hx⟩ := hT (by omega)
      obtain ⟨h1, h2, a', c', h3, _⟩ := hx k hlt
      clear hx h1 h2
      generalize T[k].ops.length = L at h3
      go_wp2
      · go_ret; exact ⟨⟨_, rfl⟩, rfl⟩
      · go_ret; exact ⟨⟨_, rfl⟩, rfl⟩
      · go_round
        case rel => exact ⟨k + 1, by omega, by go_num, _, rfl⟩
        case measure => simp [intOf]; omega
    · go_wp2
      · go_ret; exact ⟨⟨_, rfl⟩, rfl⟩
      · go_ret; exact ⟨⟨_, rfl⟩, rfl⟩
      go_loop [5, 7] (fun s i => ∃ k : Nat, k ≤ SS.length ∧ i = .int .i64 k ∧ ∃ n : Int, s = .int .i64 n) (fun _ i => SS.length - (intOf i).toNat)
      case atStart => exact ⟨0, Nat.zero_le _, rfl, _, rfl⟩
      case round =>
        obtain ⟨k2, hk2, rfl, s2, rfl⟩ := hrel
        by_cases hlt2 : k2 < SS.length
        · obtain ⟨b, off, rfl, hb, hx⟩ := hSS (by omega)
          obtain ⟨h1, a', c', h3, _⟩ := hx k2 hlt2
          clear hx h1
          generalize SS[k2].txns.length = L at h3
          go_wp2
          · go_ret; exact ⟨⟨_, rfl⟩, rfl⟩
          · go_ret; exact ⟨⟨_, rfl⟩, rfl⟩
          · go_round
            case rel => exact ⟨k2 + 1, by omega, by go_num, _, rfl⟩
            case measure => simp [intOf]; omega
        · go_wp2
          go_ret; exact ⟨⟨_, rfl⟩, rfl⟩

set_option maxHeartbeats 400000 in
theorem bytes9 (a sa : Option Addr) (c sc : Nat) (S : Nat → Prop) (T : List PTxn) (SS : List PSes) (w : World) (hT : TxnsAt S w a T) (hSS : SessAt S w sa SS) (hn : T.length ≤ maxLen) (hn2 : SS.length ≤ maxLen) :
    Calls Try.prog 9 #[.slice a T.length c, .slice sa SS.length sc] w (someBool w) := by
  unfold maxLen at hn hn2
  go_enter Try.func9, Try.ntmps9
  go_wp2
  · go_ret; exact ⟨⟨_, rfl⟩, rfl⟩
  go_loop [5, 6] (fun s i => ∃ k : Nat, k ≤ T.length ∧ i = .int .i64 k ∧ ∃ n : Int, s = .int .i64 n) (fun _ i => T.length - (intOf i).toNat)
  case atStart => exact ⟨0, Nat.zero_le _, rfl, _, rfl⟩
  case round =>
    obtain ⟨k, hk, rfl, s, rfl⟩ := hrel
    by_cases hlt : k < T.length
    · obtain ⟨b, off, rfl, hb, hx⟩ := hT (by omega)
      obtain ⟨h1, h2, a', c', h3, _⟩ := hx k hlt
      clear hx h1 h2
      generalize T[k].ops.length = L at h3
      go_wp2
      · go_ret; exact ⟨⟨_, rfl⟩, rfl⟩
      · go_ret; exact ⟨⟨_, rfl⟩, rfl⟩
      · go_round
        case rel => exact ⟨k + 1, by omega, by go_num, _, rfl⟩
        case measure => simp [intOf]; omega
    · go_wp2
      · go_ret; exact ⟨⟨_, rfl⟩, rfl⟩
      · go_ret; exact ⟨⟨_, rfl⟩, rfl⟩
      go_loop [5, 7] (fun s i => ∃ k : Nat, k ≤ SS.length ∧ i = .int .i64 k ∧ ∃ n : Int, s = .int .i64 n) (fun _ i => SS.length - (intOf i).toNat)
      case atStart => exact ⟨0, Nat.zero_le _, rfl, _, rfl⟩
      case round =>
        obtain ⟨k2, hk2, rfl, s2, rfl⟩ := hrel
        by_cases hlt2 : k2 < SS.length
        · obtain ⟨b, off, rfl, hb, hx⟩ := hSS (by omega)
          obtain ⟨h1, a', c', h3, _⟩ := hx k2 hlt2
          clear hx h1
          generalize SS[k2].txns.length = L at h3
          go_wp2
          · go_ret; exact ⟨⟨_, rfl⟩, rfl⟩
          · go_ret; exact ⟨⟨_, rfl⟩, rfl⟩
          · go_round
            case rel => exact ⟨k2 + 1, by omega, by go_num, _, rfl⟩
            case measure => simp [intOf]; omega
        · go_wp2
          go_ret; exact ⟨⟨_, rfl⟩, rfl⟩

/-- zzSessionsBytes. -/
def sb45Post (SS : List PSes) (w : World) (e : Ending) (w' : World) : Prop :=
  (∃ r : Int, e = .returned (.int .i64 r) ∧ (r ≤ 1048576 → SS.length ≤ 1048576 ∧ ∀ k (h : k < SS.length), SS[k].txns.length ≤ 1048576)) ∧ w' = w
set_option maxHeartbeats 400000 in
theorem sb45 (sa : Option Addr) (sc : Nat) (S : Nat → Prop) (SS : List PSes) (w : World) (hSS : SessAt S w sa SS) (hn : SS.length ≤ maxLen) : Calls Try.prog 45 #[.slice sa SS.length sc] w (sb45Post SS w) := by
  unfold maxLen at hn
  by_cases hbig : (1048576 : Int) < SS.length
  · go_enter Try.func45, Try.ntmps45
    go_wp2
    go_ret; exact ⟨⟨_, rfl, by omega⟩, rfl⟩
  by_cases hbig2 : (1048576 : Int) < 32 * SS.length
  · go_enter Try.func45, Try.ntmps45
    go_wp2
    go_ret; exact ⟨⟨_, rfl, by omega⟩, rfl⟩
  go_enter Try.func45, Try.ntmps45
  go_wp2
  go_loop [3, 16] (fun s i => ∃ k : Nat, k ≤ SS.length ∧ i = .int .i64 k ∧ (∃ n : Nat, n ≤ 1048576 ∧ s = .int .i64 n) ∧ ∀ j (h : j < SS.length), j < k → SS[j].txns.length ≤ 1048576) (fun _ i => SS.length - (intOf i).toNat)
  case atStart => exact ⟨0, Nat.zero_le _, rfl, ⟨32 * SS.length, by omega, by go_num⟩, fun j _ h => by omega⟩
  case round =>
    obtain ⟨k, hk, rfl, ⟨s, hs, rfl⟩, hall⟩ := hrel
    have HA := hide hall
    clear hall
    by_cases hlt : k < SS.length
    · obtain ⟨b, off, rfl, hb, hx⟩ := hSS (by omega)
      obtain ⟨h1, a', c', h3, _⟩ := hx k hlt
      have HN := hide (fun (hL : SS[k].txns.length ≤ 1048576) j (h : j < SS.length) (hj : j < k + 1) => show SS[j].txns.length ≤ 1048576 by
        by_cases e : j = k
        · subst e; exact hL
        · exact HA.out j h (by omega))
      clear hx h1
      generalize SS[k].txns.length = L at h3 HN
      by_cases hbl : (1048576 : Int) < L
      · go_wp2
        go_ret; exact ⟨⟨_, rfl, by omega⟩, rfl⟩
      by_cases hbs : (1048576 : Int) < s + 8 * L
      · go_wp2
        go_ret
        refine ⟨⟨_, rfl, fun h => ?_⟩, rfl⟩
        exfalso
        have h : (s : Int) + 8 * L ≤ 1048576 := h
        omega
      · go_wp2
        go_round
        case rel => exact ⟨k + 1, by omega, by go_num, ⟨s + 8 * L, by omega, by go_num⟩, HN.out (by omega)⟩
        case measure => simp [intOf]; omega
    · go_wp2
      go_ret
      exact ⟨⟨_, rfl, fun _ => ⟨by omega, fun j h => HA.out j h (by omega)⟩⟩, rfl⟩

def RefOk (T : List PTxn) (SS : List PSes) (k : Nat) : Prop := ∀ j (h : j < SS.length), j < k → ∀ t ∈ SS[j].txns, 0 ≤ t ∧ t < T.length
def PlOk (T : List PTxn) (x : PSes) (m : Nat) : Prop := ∀ j (h : j < x.txns.length), j < m → 0 ≤ x.txns[j] ∧ x.txns[j] < T.length
/-- zzRefOps. -/
def ref46Post (T : List PTxn) (SS : List PSes) (w : World) (e : Ending) (w' : World) : Prop :=
  (∃ r : Int, e = .returned (.int .i64 r) ∧ (0 ≤ r → r ≤ 4096 → RefOk T SS SS.length ∧ (seF T (txL SS) SS.length).length ≤ 4096)) ∧ w' = w
set_option maxHeartbeats 800000 in
theorem ref46 (a sa : Option Addr) (c sc : Nat) (S : Nat → Prop) (T : List PTxn) (SS : List PSes) (w : World) (hT : TxnsAt S w a T) (hSS : SessAt S w sa SS) (hTl : T.length ≤ 1048576) (hol : opsSum T ≤ 1048576) (hSl : SS.length ≤ 1048576)
    (hsl : ∀ k (h : k < SS.length), SS[k].txns.length ≤ 1048576) : Calls Try.prog 46 #[.slice a T.length c, .slice sa SS.length sc] w (ref46Post T SS w) := by
  have HT := hide hT
  have HSS := hide hSS
  have HOL := hide hol
  have HSL := hide hsl
  clear hT hSS hol hsl
  go_enter Try.func46, Try.ntmps46
  go_wp2
  go_loop [5, 11] (fun s i => ∃ k : Nat, k ≤ SS.length ∧ i = .int .i64 k ∧ ∃ n : Nat, n ≤ 4096 ∧ s = .int .i64 n ∧ n = (seF T (txL SS) k).length ∧ RefOk T SS k) (fun _ i => SS.length - (intOf i).toNat)
  case atStart => exact ⟨0, Nat.zero_le _, rfl, 0, by omega, rfl, rfl, fun j _ h => by omega⟩
  case round =>
    obtain ⟨k, hk, rfl, n, hn, rfl, hn2, hR⟩ := hrel
    have HN := hide hn2
    have HR := hide hR
    clear hn2 hR
    by_cases hlt : k < SS.length
    · obtain ⟨b, off, rfl, hb, hx⟩ := HSS.out (by omega)
      obtain ⟨h1, a', c', h3, h4⟩ := hx k hlt
      have HI := hide h4
      have hxl := HSL.out k hlt
      have HXk := hide (txL_at SS k hlt)
      have HNx := hide (fun (hP : PlOk T SS[k] SS[k].txns.length) j (h : j < SS.length) (hj : j < k + 1) => show ∀ t ∈ SS[j].txns, 0 ≤ t ∧ t < T.length by
        by_cases e : j = k
        · subst e
          intro t ht
          obtain ⟨q, h1, rfl⟩ := List.getElem_of_mem ht
          exact hP q h1 h1
        · exact HR.out j h (by omega))
      obtain ⟨x, hx0⟩ : ∃ x, x = SS[k] := ⟨_, rfl⟩
      rw [← hx0] at h3 HI hxl HXk HNx
      clear hx h1 h4 hx0
      go_wp2
      go_loop [5, 20] (fun s i => ∃ m : Nat, m ≤ x.txns.length ∧ i = .int .i64 m ∧ ∃ n : Nat, n ≤ 4096 ∧ s = .int .i64 n ∧ n = (atF T (txL SS) k m 0).length ∧ PlOk T x m) (fun _ i => x.txns.length - (intOf i).toNat)
      case atStart => exact ⟨0, Nat.zero_le _, rfl, n, hn, rfl, by rw [atF_start]; exact HN.out, fun j _ h => by omega⟩
      case round =>
        obtain ⟨m, hm, rfl, n1, hn1, rfl, hn2, hP⟩ := hrel
        have HN1 := hide hn2
        have HP := hide hP
        clear hn2 hP
        by_cases hml : m < x.txns.length
        · obtain ⟨b', off', rfl, hbS', hx'⟩ := HI.out (by omega)
          have q1 := hx' m hml
          clear hx'
          have HXm := hide (getD_at x.txns m hml)
          have HPn := hide (fun (h0 : 0 ≤ x.txns[m] ∧ x.txns[m] < T.length) j (h : j < x.txns.length) (hj : j < m + 1) => show 0 ≤ x.txns[j] ∧ x.txns[j] < T.length by
            by_cases e : j = m
            · subst e; exact h0
            · exact HP.out j h (by omega))
          generalize x.txns[m] = t at q1 HXm HPn
          by_cases ht0 : t < 0
          · go_wp2
            go_ret
            exact ⟨⟨_, rfl, fun h => by omega⟩, rfl⟩
          obtain ⟨tn, rfl⟩ : ∃ tn : Nat, t = (tn : Int) := ⟨t.toNat, by omega⟩
          have hd0 : decide ((tn : Int) < 0) = false := by simp
          by_cases htT : tn < T.length
          · obtain ⟨bt, offt, rfl, hbt, hxt⟩ := HT.out (by omega)
            obtain ⟨_, _, ao, co, p3, _⟩ := hxt tn htT
            have hol : T[tn].ops.length ≤ 1048576 := Nat.le_trans (opsSum_at T tn htT) HOL.out
            have HE : Hid ((atF T (txL SS) k (m + 1) 0).length = (atF T (txL SS) k m 0).length + T[tn].ops.length) := by
              show _ = _
              rw [atF_zero, atF_zero, plF, HXk.out, HXm.out, opsOf_nat T tn htT]
              simp only [List.length_append, List.length_map]
              omega
            have hge : decide ((tn : Int) ≥ (T.length : Int)) = false := by simp; omega
            have hge2 : decide ((T.length : Int) ≤ (tn : Int)) = false := by simp; omega
            generalize T[tn].ops.length = L at p3 hol HE
            clear hxt
            by_cases hbs : (4096 : Int) < n1 + L
            · go_wp2
              go_ret
              exact ⟨⟨_, rfl, fun h h2 => by omega⟩, rfl⟩
            · go_wp2
              go_round
              case rel =>
                have e1 := HE.out
                have e2 := HN1.out
                exact ⟨m + 1, by omega, by go_num, n1 + L, by omega, by go_num, by omega, HPn.out ⟨by omega, by omega⟩⟩
              case measure => simp [intOf]; omega
          · have hge2 : (T.length : Int) ≤ (tn : Int) := by omega
            go_wp2
            go_ret
            exact ⟨⟨_, rfl, fun h => by omega⟩, rfl⟩
        · go_wp2
          go_round
          case rel =>
            obtain rfl : m = x.txns.length := by omega
            refine ⟨k + 1, by omega, by go_num, n1, hn1, rfl, ?_, HNx.out HP.out⟩
            rw [HN1.out, ← atF_done, HXk.out]
          case measure => simp [intOf]; omega
    · go_wp2
      go_ret
      obtain rfl : k = SS.length := by omega
      exact ⟨⟨_, rfl, fun _ _ => ⟨HR.out, by rw [← HN.out]; exact hn⟩⟩, rfl⟩

structure FitsH (T : List PTxn) (SS : List PSes) : Prop where
  bytes : 48 * T.length + 24 * opsSum T ≤ 1048576
  sl : SS.length ≤ 1048576
  each : ∀ k (h : k < SS.length), SS[k].txns.length ≤ 1048576
  ok : ∀ k (h : k < SS.length), ∀ t ∈ SS[k].txns, 0 ≤ t ∧ t < T.length
  ev : (seF T (txL SS) SS.length).length ≤ 4096
def fits10Post (T : List PTxn) (SS : List PSes) (w : World) (e : Ending) (w' : World) : Prop := (∃ r : Bool, e = .returned (.bool r) ∧ (r = true → FitsH T SS)) ∧ w' = w
set_option maxHeartbeats 400000 in
theorem fits10 (a sa : Option Addr) (c sc : Nat) (S : Nat → Prop) (T : List PTxn) (SS : List PSes) (w : World) (hT : TxnsAt S w a T) (hSS : SessAt S w sa SS) (hn : T.length ≤ maxLen) (hn2 : SS.length ≤ maxLen) :
    Calls Try.prog 10 #[.slice a T.length c, .slice sa SS.length sc] w (fits10Post T SS w) := by
  have C20 := hide (txnsBytes_any a c S T w hT hn)
  have C45 := hide (sb45 sa sc S SS w hSS hn2)
  have C46 := hide (fun h1 h2 h3 h4 => ref46 a sa c sc S T SS w hT hSS h1 h2 h3 h4)
  clear hT hSS hn hn2
  go_enter Try.func10, Try.ntmps10
  go_wp2_with fail
  refine C20.out.mono ?_
  rintro e w' ⟨⟨r1, rfl, hr1⟩, hw⟩
  subst hw
  rename World => w
  have HR1 := hide hr1
  clear hr1
  go_wp2_with fail
  refine C45.out.mono ?_
  rintro e w' ⟨⟨r2, rfl, hr2⟩, hw⟩
  subst hw
  rename World => w
  have HR2 := hide hr2
  clear hr2
  by_cases h1 : (1048576 : Int) < r1
  · go_wp2
    go_ret
    exact ⟨⟨_, rfl, fun h => by cases h⟩, rfl⟩
  have hd1 : decide ((1048576 : Int) < r1) = false := by simpa using h1
  have hd1' : decide (r1 > (1048576 : Int)) = false := by simpa using h1
  by_cases h2 : (1048576 : Int) < r2
  · go_wp2
    go_ret
    exact ⟨⟨_, rfl, fun h => by cases h⟩, rfl⟩
  have hd2 : decide ((1048576 : Int) < r2) = false := by simpa using h2
  obtain ⟨hsl, hsk⟩ := HR2.out (by omega)
  have hb := HR1.out (by omega)
  have HSK := hide hsk
  have HB := hide hb
  have hTl : T.length ≤ 1048576 := by omega
  have hol : opsSum T ≤ 1048576 := by omega
  have HOL := hide hol
  clear hsk hb hol HR1 HR2
  go_wp2_with fail
  · go_ret
    exact ⟨⟨_, rfl, fun h => by cases h⟩, rfl⟩
  refine (C46.out hTl HOL.out hsl HSK.out).mono ?_
  rintro e w' ⟨⟨r3, rfl, hr3⟩, hw⟩
  subst hw
  rename World => w
  have HR3 := hide hr3
  clear hr3
  by_cases h3 : (0 : Int) ≤ r3
  · by_cases h4 : r3 ≤ 4096
    · obtain ⟨q1, q2⟩ := HR3.out h3 h4
      have HQ : Hid (FitsH T SS) := ⟨HB.out, hsl, HSK.out, fun k h => q1 k h h, q2⟩
      clear q1 q2
      go_wp2
      go_ret
      exact ⟨⟨_, rfl, fun _ => HQ.out⟩, rfl⟩
    · have hd4 : decide (r3 ≤ (4096 : Int)) = false := by simpa using h4
      go_wp2
      go_ret
      exact ⟨⟨_, rfl, fun h => by cases h⟩, rfl⟩
  · have hd3 : decide ((0 : Int) ≤ r3) = false := by simpa using h3
    go_wp2
    go_ret
    exact ⟨⟨_, rfl, fun h => by cases h⟩, rfl⟩
end Go.Proofs.Qxb6602646a
