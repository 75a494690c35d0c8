/-
  The seat's first walks: the sizes.
-/
import Derived.Test.Qxb6602646aRows
import Derived.Test.Qxb6602646aMem
namespace Go.Proofs.Qxb6602646a
open Go.RowKit

def isWritePost (k key v : Int) (w : World) (e : Ending) (w' : World) : Prop :=
  e = .returned (.bool (k == 1)) ∧ w' = w.alloc (.cells #[.int .u8 k, .int .i64 key, .int .i64 v] 40)
set_option maxHeartbeats 400000 in
/-- zzIsWrite. -/
theorem isWrite_any (k key v : Int) (w : World) :
    Calls Try.prog 17 #[.agg #[.int .u8 k, .int .i64 key, .int .i64 v]] w (isWritePost k key v w) := by
  go_enter Try.func17, Try.ntmps17
  go_wp2
  go_ret
  exact ⟨rfl, rfl⟩

def isWriteIs (r : Bool) (k key v : Int) (w : World) (e : Ending) (w' : World) : Prop :=
  e = .returned (.bool r) ∧ w' = w.alloc (.cells #[.int .u8 k, .int .i64 key, .int .i64 v] 40)
theorem isWrite_is (r : Bool) (k key v : Int) (h : (k == 1) = r) (w : World) : Calls Try.prog 17 #[.agg #[.int .u8 k, .int .i64 key, .int .i64 v]] w (isWriteIs r k key v w) := by
  subst h
  exact isWrite_any k key v w

theorem isWrite_ext (r : Bool) (k key v : Int) (h : (k == 1) = r) {w : World} (p : Ext w) : Calls Try.prog 17 #[.agg #[.int .u8 k, .int .i64 key, .int .i64 v]] p.val fun e w' => e = .returned (.bool r) ∧ ∃ q : Ext w, w' = q.val :=
  (isWrite_is r k key v h p.val).mono fun _ _ ⟨h1, h2⟩ => ⟨h1, p.grow (h2 ▸ (Below.refl _ _).alloc (Nat.le_refl _) _)⟩

def someBool (w : World) (e : Ending) (w' : World) : Prop := (∃ r, e = .returned (.bool r)) ∧ w' = w

set_option maxHeartbeats 400000 in
/-- zzBytes_FnOverwrittenWritesMatchesLaterWriteModel. -/
theorem bytes19 (a : Option Addr) (c : Nat) (S : Nat → Prop) (T : List PTxn) (w : World) (hT : TxnsAt S w a T) (hn : T.length ≤ maxLen) :
    Calls Try.prog 19 #[.slice a T.length c] w (someBool w) := by
  unfold maxLen at hn
  go_enter Try.func19, Try.ntmps19
  go_wp2
  · go_ret; exact ⟨⟨_, rfl⟩, rfl⟩
  go_loop [3, 4] (fun s i => ∃ k : Nat, k ≤ T.length ∧ i = .int .i64 k ∧ ∃ n : Int, s = .int .i64 n) (fun _ i => T.length - (intOf i).toNat)
  case atStart => exact ⟨0, Nat.zero_le _, rfl, _, rfl⟩
  case round =>
    obtain ⟨k, hk, rfl, s, rfl⟩ := hrel
    by_cases hlt : k < T.length
    · obtain ⟨b, off, rfl, hb, hx⟩ := hT (by omega)
      obtain ⟨h1, h2, a', c', h3, _⟩ := hx k hlt
      clear hx h1 h2
      generalize T[k].ops.length = L at h3
      go_wp2
      · go_ret; exact ⟨⟨_, rfl⟩, rfl⟩
      · go_ret; exact ⟨⟨_, rfl⟩, rfl⟩
      · go_round
        case rel => exact ⟨k + 1, by omega, by go_num, _, rfl⟩
        case measure => simp [intOf]; omega
    · go_wp2
      go_ret; exact ⟨⟨_, rfl⟩, rfl⟩

/-- How many operations the transactions hold. -/
def opsSum (T : List PTxn) : Nat := (T.map fun t => t.ops.length).sum
theorem opsSum_snoc (T : List PTxn) (k : Nat) (h : k < T.length) : opsSum (T.take (k + 1)) = opsSum (T.take k) + T[k].ops.length := by
  unfold opsSum
  rw [List.take_succ_eq_append_getElem h, List.map_append, List.sum_append]
  simp only [List.map_cons, List.map_nil, List.sum_cons, List.sum_nil, Nat.add_zero]
theorem opsSum_take_le (T : List PTxn) (k : Nat) : opsSum (T.take k) ≤ opsSum T := by
  have h : opsSum T = opsSum (T.take k) + opsSum (T.drop k) := by
    unfold opsSum
    rw [← List.sum_append, ← List.map_append, List.take_append_drop]
  omega
theorem opsSum_at (T : List PTxn) (k : Nat) (h : k < T.length) : T[k].ops.length ≤ opsSum T := by
  have h1 := opsSum_snoc T k h
  have h2 := opsSum_take_le T (k + 1)
  omega

def txnsBytesPost (T : List PTxn) (w : World) (e : Ending) (w' : World) : Prop :=
  (∃ r : Int, e = .returned (.int .i64 r) ∧ (r ≤ 1048576 → 48 * T.length + 24 * opsSum T ≤ 1048576)) ∧ w' = w
set_option maxHeartbeats 400000 in
/-- zzTxnsBytes. -/
theorem txnsBytes_any (a : Option Addr) (c : Nat) (S : Nat → Prop) (T : List PTxn) (w : World) (hT : TxnsAt S w a T) (hn : T.length ≤ maxLen) :
    Calls Try.prog 20 #[.slice a T.length c] w (txnsBytesPost T w) := by
  unfold maxLen at hn
  by_cases hbig : (1048576 : Int) < T.length
  · go_enter Try.func20, Try.ntmps20
    go_wp2
    go_ret; exact ⟨⟨_, rfl, by omega⟩, rfl⟩
  by_cases hbig2 : (1048576 : Int) < 48 * T.length
  · go_enter Try.func20, Try.ntmps20
    go_wp2
    go_ret; exact ⟨⟨_, rfl, by omega⟩, rfl⟩
  go_enter Try.func20, Try.ntmps20
  go_wp2
  go_loop [3, 16] (fun s i => ∃ k : Nat, k ≤ T.length ∧ i = .int .i64 k ∧ ∃ n : Nat, n ≤ 1048576 ∧ n = 48 * T.length + 24 * opsSum (T.take k) ∧ s = .int .i64 n) (fun _ i => T.length - (intOf i).toNat)
  case atStart => exact ⟨0, Nat.zero_le _, rfl, 48 * T.length, by omega, by simp [opsSum], by go_num⟩
  case round =>
    obtain ⟨k, hk, rfl, s, hs, hs2, rfl⟩ := hrel
    have HS : Hid (s = 48 * T.length + 24 * opsSum (T.take k)) := hs2
    clear hs2
    by_cases hlt : k < T.length
    · obtain ⟨b, off, rfl, hb, hx⟩ := hT (by omega)
      obtain ⟨h1, h2, a', c', h3, _⟩ := hx k hlt
      have HE := opsSum_snoc T k hlt
      have HL := opsSum_at T k hlt
      clear hx h1 h2
      generalize hL : T[k].ops.length = L at h3 HE HL
      have HE2 : Hid (opsSum (T.take (k + 1)) = opsSum (T.take k) + L) := HE
      have HL2 : Hid (L ≤ opsSum T) := HL
      clear HE hL HL
      by_cases hbl : (1048576 : Int) < L
      · go_wp2
        go_ret; exact ⟨⟨_, rfl, by omega⟩, rfl⟩
      by_cases hbs : (1048576 : Int) < s + 24 * L
      · go_wp2
        go_ret
        refine ⟨⟨_, rfl, fun h => ?_⟩, rfl⟩
        exfalso
        have h : (s : Int) + 24 * L ≤ 1048576 := h
        omega
      · go_wp2
        go_round
        case rel =>
          have e1 := HE2.out
          have e2 := HS.out
          exact ⟨k + 1, by omega, by go_num, s + 24 * L, by omega, by omega, by go_num⟩
        case measure => simp [intOf]; omega
    · go_wp2
      go_ret
      have e2 := HS.out
      have e3 : T.take k = T := List.take_of_length_le (by omega)
      rw [e3] at e2
      exact ⟨⟨_, rfl, by omega⟩, rfl⟩

def totalOpsPost (T : List PTxn) (w : World) (e : Ending) (w' : World) : Prop :=
  (∃ r : Int, e = .returned (.int .i64 r) ∧ (r ≤ 4096 → opsSum T ≤ 4096)) ∧ w' = w
set_option maxHeartbeats 400000 in
/-- zzTotalOps. -/
theorem totalOps_any (a : Option Addr) (c : Nat) (S : Nat → Prop) (T : List PTxn) (w : World) (hT : TxnsAt S w a T) (hn : T.length ≤ 1048576) (hsum : opsSum T ≤ 1048576) :
    Calls Try.prog 21 #[.slice a T.length c] w (totalOpsPost T w) := by
  have HSM : Hid (opsSum T ≤ 1048576) := hsum
  clear hsum
  go_enter Try.func21, Try.ntmps21
  go_wp2
  go_loop [3, 7] (fun s i => ∃ k : Nat, k ≤ T.length ∧ i = .int .i64 k ∧ ∃ n : Nat, n ≤ 4096 ∧ n = opsSum (T.take k) ∧ s = .int .i64 n) (fun _ i => T.length - (intOf i).toNat)
  case atStart => exact ⟨0, Nat.zero_le _, rfl, 0, by omega, by simp [opsSum], by go_num⟩
  case round =>
    obtain ⟨k, hk, rfl, s, hs, hs2, rfl⟩ := hrel
    have HS : Hid (s = opsSum (T.take k)) := hs2
    clear hs2
    by_cases hlt : k < T.length
    · obtain ⟨b, off, rfl, hb, hx⟩ := hT (by omega)
      obtain ⟨h1, h2, a', c', h3, _⟩ := hx k hlt
      have HE := opsSum_snoc T k hlt
      have HL := opsSum_at T k hlt
      clear hx h1 h2
      generalize hL : T[k].ops.length = L at h3 HE HL
      have HE2 : Hid (opsSum (T.take (k + 1)) = opsSum (T.take k) + L) := HE
      have hl1 : L ≤ 1048576 := Nat.le_trans HL HSM.out
      clear HE hL HL
      by_cases hbs : (4096 : Int) < s + L
      · go_wp2
        go_ret
        refine ⟨⟨_, rfl, fun h => ?_⟩, rfl⟩
        exfalso
        have h : (s : Int) + L ≤ 4096 := h
        omega
      · go_wp2
        go_round
        case rel =>
          have e1 := HE2.out
          have e2 := HS.out
          exact ⟨k + 1, by omega, by go_num, s + L, by omega, by omega, by go_num⟩
        case measure => simp [intOf]; omega
    · go_wp2
      go_ret
      have e2 := HS.out
      have e3 : T.take k = T := List.take_of_length_le (by omega)
      rw [e3] at e2
      exact ⟨⟨_, rfl, by omega⟩, rfl⟩
end Go.Proofs.Qxb6602646a
