/-
  zzWritesKey, the script's bounds, the new set.
-/
import Derived.Test.Qxb6602646aScr
namespace Go.Proofs.Qxb6602646a
open Go.RowKit

def boolPost (r : Bool) (w : World) (e : Ending) (w' : World) : Prop := e = .returned (.bool r) ∧ Below w.heap.size w w'
theorem writesK_true {ops : List POp} {k : Int} {m : Nat} (hm : m < ops.length) (h1 : ops[m].kind = 1) (h2 : ops[m].key = k) : writesK ops k = true := by
  unfold writesK
  rw [List.any_eq_true]
  exact ⟨ops[m], List.getElem_mem hm, by simp [h1, h2]⟩
theorem writesK_false {ops : List POp} {k : Int} (h : ∀ m (hm : m < ops.length), ¬ (ops[m].kind = 1 ∧ ops[m].key = k)) : writesK ops k = false := by
  unfold writesK
  rw [List.any_eq_false]
  intro o ho
  obtain ⟨m, hm, rfl⟩ := List.mem_iff_getElem.1 ho
  have := h m hm
  simpa using this
set_option maxHeartbeats 400000 in
set_option maxRecDepth 20000 in
/-- zzWritesKey. -/
theorem writesKey36 (S : Nat → Prop) (id ses : Int) (a : Option Addr) (c : Nat) (ops : List POp) (k : Int) (w : World) (h : OpsAt S w a ops) (hS : ∀ b, S b → b < w.heap.size) (hn : ops.length ≤ 1048576) :
    Calls Try.prog 36 #[.agg #[.int .i64 id, .int .i64 ses, .slice a ops.length c], .int .i64 k] w (boolPost (writesK ops k) w) := by
  have HO := hide h
  have HS := hide hS
  clear h hS
  go_enter Try.func36, Try.ntmps36
  go_wp2_with fail
  go_loopw [10] (fun i wr => ∃ m : Nat, m ≤ ops.length ∧ i = .int .i64 m ∧ Below w.heap.size w wr ∧ ∀ j (hj : j < ops.length), j < m → ¬ (ops[j].kind = 1 ∧ ops[j].key = k)) (fun i _ => ops.length - (intOf i).toNat)
  case atStart => exact ⟨0, Nat.zero_le _, rfl, (Below.refl _ _).alloc (Nat.le_refl _) _, fun j hj h => by omega⟩
  case round =>
    rename World => wr
    obtain ⟨m, hm, rfl, hB, hno⟩ := hrel
    have HB := hide hB
    have HNO := hide hno
    have hsz := hB.size
    clear hB hno
    by_cases hlt : m < ops.length
    · obtain ⟨b, off, rfl, hb, hx⟩ := HO.out (by omega)
      obtain ⟨p1, p2, p3⟩ := hx m hlt
      have hbl := HS.out b hb
      have q1 := (HB.out.cell (p := ⟨b, off + m * 3, none⟩) hbl).trans p1
      have q2 := (HB.out.cell (p := ⟨b, off + m * 3 + 1, none⟩) hbl).trans p2
      have q3 := (HB.out.cell (p := ⟨b, off + m * 3 + 2, none⟩) hbl).trans p3
      obtain ⟨o, ho⟩ : ∃ o, o = ops[m] := ⟨_, rfl⟩
      rw [← ho] at q1 q2 q3
      have HOE := hide ho
      clear p1 p2 p3 hx ho
      by_cases hkd : o.kind = 1
      · have hkb : (o.kind == 1) = true := by simp [hkd]
        have C17 := hide (fun w => isWrite_is true o.kind o.key o.val hkb w)
        have HK := hide hkd
        clear hkd
        by_cases hke : o.key = k
        · have hkk : (o.key == k) = true := by simp [hke]
          have HKE := hide hke
          clear hke
          go_wp2_with (go_at_call 17; refine (C17.out _).mono ?_; rintro e w' ⟨rfl, rfl⟩)
          go_ret
          have e1 := HOE.out
          subst e1
          refine ⟨by rw [writesK_true hlt HK.out HKE.out]; rfl, ?_⟩
          exact (HB.out.alloc hsz _).alloc (by simp; omega) _
        · have hkk : (o.key == k) = false := by simp [hke]
          have HKE := hide hke
          clear hke
          go_wp2_with (go_at_call 17; refine (C17.out _).mono ?_; rintro e w' ⟨rfl, rfl⟩)
          go_roundw
          case rel =>
            refine ⟨m + 1, by omega, by go_num, (HB.out.alloc hsz _).alloc (by simp; omega) _, fun j hj h => ?_⟩
            by_cases e : j = m
            · subst e
              have e1 := HOE.out
              rw [← e1]
              exact fun hh => HKE.out hh.2
            · exact HNO.out j hj (by omega)
          case measure => simp [intOf]; omega
      · have hkb : (o.kind == 1) = false := by simp [hkd]
        have C17 := hide (fun w => isWrite_is false o.kind o.key o.val hkb w)
        have HK := hide hkd
        clear hkd
        go_wp2_with (go_at_call 17; refine (C17.out _).mono ?_; rintro e w' ⟨rfl, rfl⟩)
        go_roundw
        case rel =>
          refine ⟨m + 1, by omega, by go_num, (HB.out.alloc hsz _).alloc (by simp; omega) _, fun j hj h => ?_⟩
          by_cases e : j = m
          · subst e
            have e1 := HOE.out
            rw [← e1]
            exact fun hh => HK.out hh.1
          · exact HNO.out j hj (by omega)
        case measure => simp [intOf]; omega
    · go_wp2_with fail
      go_ret
      exact ⟨by rw [writesK_false (fun j hj => HNO.out j hj (by omega))]; rfl, HB.out⟩

set_option maxHeartbeats 400000 in
/-- zzBytes_FnWriterSetScriptWriters. -/
theorem bytes41 (a sa : Option Addr) (c sc : Nat) (S : Nat → Prop) (T : List PTxn) (n2 : Nat) (w : World) (hT : TxnsAt S w a T) (hn : T.length ≤ maxLen) :
    Calls Try.prog 41 #[.slice a T.length c, .slice sa n2 sc] w (someBool w) := by
  unfold maxLen at hn
  go_enter Try.func41, Try.ntmps41
  go_wp2
  · go_ret; exact ⟨⟨_, rfl⟩, rfl⟩
  go_loop [5, 6] (fun s i => ∃ k : Nat, k ≤ T.length ∧ i = .int .i64 k ∧ ∃ n : Int, s = .int .i64 n) (fun _ i => T.length - (intOf i).toNat)
  case atStart => exact ⟨0, Nat.zero_le _, rfl, _, rfl⟩
  case round =>
    obtain ⟨k, hk, rfl, s, rfl⟩ := hrel
    by_cases hlt : k < T.length
    · obtain ⟨b, off, rfl, hb, hx⟩ := hT (by omega)
      obtain ⟨h1, h2, a', c', h3, _⟩ := hx k hlt
      clear hx h1 h2
      generalize T[k].ops.length = L at h3
      go_wp2
      · go_ret; exact ⟨⟨_, rfl⟩, rfl⟩
      · go_ret; exact ⟨⟨_, rfl⟩, rfl⟩
      · go_round
        case rel => exact ⟨k + 1, by omega, by go_num, _, rfl⟩
        case measure => simp [intOf]; omega
    · go_wp2
      all_goals (go_ret; exact ⟨⟨_, rfl⟩, rfl⟩)

def fits42Post (T : List PTxn) (script : List Int) (w : World) (e : Ending) (w' : World) : Prop :=
  (∃ r, e = .returned (.bool r) ∧ (r = true → 48 * T.length + 24 * opsSum T ≤ 1048576 ∧ opsSum T ≤ 4096 ∧ script.length ≤ 4096 ∧ ∀ i (h : i < script.length), script[i] < T.length)) ∧ w' = w
set_option maxHeartbeats 400000 in
set_option maxRecDepth 20000 in
/-- zzScriptFits. -/
theorem scriptFits42 (a sa : Option Addr) (c sc : Nat) (S : Nat → Prop) (T : List PTxn) (script : List Int) (w : World) (hT : TxnsAt S w a T) (hn : T.length ≤ maxLen) (hs : IntsAt .i64 S w sa script) (hsn : script.length ≤ maxLen) :
    Calls Try.prog 42 #[.slice a T.length c, .slice sa script.length sc] w (fits42Post T script w) := by
  have HN := hide hn
  have HT := hide hT
  have HSN := hide hs
  unfold maxLen at hsn
  clear hn hT hs
  go_enter Try.func42, Try.ntmps42
  by_cases hl : (4096 : Int) < script.length
  · go_wp2_with fail
    go_ret
    exact ⟨⟨_, rfl, fun h => by simp at h⟩, rfl⟩
  go_wp2_with fail
  refine (txnsBytes_any a c S T _ HT.out HN.out).mono ?_
  rintro e w' ⟨⟨r, rfl, hr⟩, rfl⟩
  rename World => w
  by_cases hr1 : r ≤ 1048576
  case neg =>
    have hr2 : (1048576 : Int) < r := by omega
    clear hr hr1
    go_wp2_with fail
    go_ret
    exact ⟨⟨_, rfl, fun h => by simp at h⟩, rfl⟩
  have HB := hide (hr hr1)
  clear hr
  have hd : ¬ (1048576 : Int) < r := by omega
  by_cases hr4 : (1048576 : Int) < wrap64 (r + 8 * (script.length : Int))
  · go_wp2_with fail
    go_ret
    exact ⟨⟨_, rfl, fun h => by simp at h⟩, rfl⟩
  go_wp2_with fail
  refine (totalOps_any a c S T _ HT.out (by have := HB.out; omega) (by have := HB.out; omega)).mono ?_
  rintro e w' ⟨⟨r', rfl, hr⟩, rfl⟩
  rename World => w
  by_cases hr3 : r' ≤ 4096
  case neg =>
    have hr2 : (4096 : Int) < r' := by omega
    clear hr hr3
    go_wp2_with fail
    go_ret
    exact ⟨⟨_, rfl, fun h => by simp at h⟩, rfl⟩
  have HO := hide (hr hr3)
  have hr5 : ¬ (4096 : Int) < r' := by omega
  have hTl : T.length ≤ 1048576 := by have := HB.out; omega
  clear hr
  go_wp2_with fail
  go_loop [28] (fun i => ∃ k : Nat, k ≤ script.length ∧ i = .int .i64 k ∧ ∀ j (h : j < script.length), j < k → script[j] < T.length) (fun i => script.length - (intOf i).toNat)
  case atStart => exact ⟨0, Nat.zero_le _, rfl, fun j h hj => by omega⟩
  case round =>
    obtain ⟨k, hk, rfl, hno⟩ := hrel
    have HNO := hide hno
    clear hno
    by_cases hlt : k < script.length
    · obtain ⟨b, off, rfl, hb, hx⟩ := HSN.out (by omega)
      have p1 := hx k hlt
      have HX := hide (show ∃ s, s = script[k] from ⟨_, rfl⟩)
      obtain ⟨s, hse⟩ := HX.out
      rw [← hse] at p1
      have HSE := hide hse
      clear hx hse HX
      by_cases hge : (T.length : Int) ≤ s
      · go_wp2_with fail
        go_ret
        exact ⟨⟨_, rfl, fun h => by simp at h⟩, rfl⟩
      · go_wp2_with fail
        go_round
        case rel =>
          refine ⟨k + 1, by omega, by go_num, fun j h hj => ?_⟩
          by_cases e : j = k
          · subst e
            have e1 := HSE.out
            omega
          · exact HNO.out j h (by omega)
        case measure => simp [intOf]; omega
    · go_wp2_with fail
      go_ret
      exact ⟨⟨_, rfl, fun _ => ⟨HB.out, HO.out, by omega, fun j h => HNO.out j h (by omega)⟩⟩, rfl⟩

/-- A new, empty set. -/
def newPost (hp av : Value) (rnd : Int) (w : World) (e : Ending) (w' : World) : Prop :=
  e = .returned (.pointer (some ⟨w.heap.size + 1, 0, none⟩)) ∧ w' = (w.alloc (.map #[] 0)).alloc (.cells #[hp, .int .i64 rnd, av, .map (some w.heap.size)] 110)
set_option maxHeartbeats 400000 in
/-- ZZNewWriterSet without keys. -/
theorem new28_nil (hp : Option Addr) (av : Value) (rnd : Int) (ag : Option Addr) (an ac : Nat) (hav : av = .slice ag an ac) (w : World) :
    Calls Try.prog 28 #[.pointer hp, .int .i64 rnd, av, .slice none 0 0, .slice none 0 0, .slice none 0 0] w (newPost (.pointer hp) av rnd w) := by
  subst hav
  have hmk := fun w => mk_map w 105
  go_enter Try.func28, Try.ntmps28
  go_wp2
  refine wp_loop_rounds 1 ?_
  rw [rounds_succ]
  go_wp2
  go_ret
  exact ⟨rfl, rfl⟩
end Go.Proofs.Qxb6602646a
