/-
  The sizes of FnWriterSetAddStep: zzBytes (26), zzAddStepFits (27).
-/
import Derived.Test.Qxb6602646aCL
namespace Go.Proofs.Qxb6602646a
open Go.RowKit

set_option maxHeartbeats 1000000 in
theorem bytes26 (a aa ka ra la : Option Addr) (c an ac kn kc rn rc lc : Nat) (rnd t : Int) (S : Nat → Prop) (T : List PTxn) (LL : List (List Int)) (w : World) (hT : TxnsAt S w a T) (hL : ListsAt S w la LL) (hn : T.length ≤ maxLen) (hn2 : LL.length ≤ maxLen) :
    Calls Try.prog 26 #[.slice a T.length c, .int .i64 rnd, .slice aa an ac, .slice ka kn kc, .slice ra rn rc, .slice la LL.length lc, .int .i64 t] w (someBool w) := by
  unfold maxLen at hn hn2
  go_enter Try.func26, Try.ntmps26
  go_wp2
  · go_ret; exact ⟨⟨_, rfl⟩, rfl⟩
  go_loop [15, 16] (fun s i => ∃ k : Nat, k ≤ T.length ∧ i = .int .i64 k ∧ ∃ n : Int, s = .int .i64 n) (fun _ i => T.length - (intOf i).toNat)
  case atStart => exact ⟨0, Nat.zero_le _, rfl, _, rfl⟩
  case round =>
    obtain ⟨k, hk, rfl, s, rfl⟩ := hrel
    by_cases hlt : k < T.length
    · obtain ⟨b, off, rfl, hb, hx⟩ := hT (by omega)
      obtain ⟨h1, h2, a', c', h3, _⟩ := hx k hlt
      clear hx h1 h2
      generalize T[k].ops.length = L at h3
      go_wp2
      · go_ret; exact ⟨⟨_, rfl⟩, rfl⟩
      · go_ret; exact ⟨⟨_, rfl⟩, rfl⟩
      · go_round
        case rel => exact ⟨k + 1, by omega, by go_num, _, rfl⟩
        case measure => simp [intOf]; omega
    · go_upto_block 4 with fail
      all_goals try (go_ret; exact ⟨⟨_, rfl⟩, rfl⟩)
      go_wp2
      go_loop [15, 17] (fun s i => ∃ k : Nat, k ≤ LL.length ∧ i = .int .i64 k ∧ ∃ n : Int, s = .int .i64 n) (fun _ i => LL.length - (intOf i).toNat)
      case atStart => exact ⟨0, Nat.zero_le _, rfl, _, rfl⟩
      case round =>
        obtain ⟨k2, hk2, rfl, s2, rfl⟩ := hrel
        by_cases hlt2 : k2 < LL.length
        · obtain ⟨b, off, rfl, hb, hx⟩ := hL (by omega)
          obtain ⟨a', c', h3, _⟩ := hx k2 hlt2
          clear hx
          generalize LL[k2].length = L at h3
          go_wp2
          · go_ret; exact ⟨⟨_, rfl⟩, rfl⟩
          · go_ret; exact ⟨⟨_, rfl⟩, rfl⟩
          · go_round
            case rel => exact ⟨k2 + 1, by omega, by go_num, _, rfl⟩
            case measure => simp [intOf]; omega
        · go_wp2
          go_ret; exact ⟨⟨_, rfl⟩, rfl⟩

structure FitsA (T : List PTxn) (rnd : Int) (al keys rs : List Int) (LL : List (List Int)) (t : Int) : Prop where
  bytes : 48 * T.length + 24 * opsSum T ≤ 1048576
  an : al.length ≤ 1048576
  kl : keys.length ≤ 4096
  rl : rs.length = keys.length
  ll : LL.length = keys.length
  each : ∀ i (h : i < LL.length), LL[i].length ≤ 1048576
  nd : keys.Nodup
  tt : t = -1 ∨ ∃ tn : Nat, t = tn ∧ ∃ h : tn < al.length, al[tn] = rnd ∨ ∃ h' : tn < T.length, T[tn].ops.length ≤ 4096
def Dist (keys : List Int) (k : Nat) : Prop := ∀ i (h : i < keys.length), i < k → ∀ j (h' : j < keys.length), j < i → keys[i] ≠ keys[j]
theorem Dist.nodup {keys : List Int} (h : Dist keys keys.length) : keys.Nodup := by
  unfold List.Nodup
  rw [List.pairwise_iff_getElem]
  intro i j hi hj hij e
  exact h j hj hj i hi hij e.symm
def fits27Post (T : List PTxn) (rnd : Int) (al keys rs : List Int) (LL : List (List Int)) (t : Int) (w : World) (e : Ending) (w' : World) : Prop :=
  (∃ r : Bool, e = .returned (.bool r) ∧ (r = true → FitsA T rnd al keys rs LL t)) ∧ Below w.heap.size w w'
set_option maxHeartbeats 1000000 in
set_option maxRecDepth 20000 in
theorem fits27 (a aa ka ra la : Option Addr) (c ac kc rc lc : Nat) (rnd t : Int) (S : Nat → Prop) (T : List PTxn) (al keys rs : List Int) (LL : List (List Int)) (w : World) (hT : TxnsAt S w a T) (hA : IntsAt .i64 S w aa al) (hK : IntsAt .i64 S w ka keys) (hL : ListsAt S w la LL) (hS : ∀ b, S b → b < w.heap.size) (hn : T.length ≤ maxLen) :
    Calls Try.prog 27 #[.slice a T.length c, .int .i64 rnd, .slice aa al.length ac, .slice ka keys.length kc, .slice ra rs.length rc, .slice la LL.length lc, .int .i64 t] w (fits27Post T rnd al keys rs LL t w) := by
  have C20 := hide (txnsBytes_any a c S T w hT hn)
  have HT := hide hT
  have HA := hide hA
  have HK := hide hK
  have HL := hide hL
  have HS := hide hS
  clear hT hA hK hL hS hn
  by_cases g1 : (1048576 : Int) < al.length
  · go_enter Try.func27, Try.ntmps27
    go_wp2
    go_ret; exact ⟨⟨_, rfl, fun h => by cases h⟩, Below.refl _ _⟩
  have d1 : decide ((1048576 : Int) < al.length) = false := by simpa using g1
  by_cases g2 : (4096 : Int) < keys.length
  · go_enter Try.func27, Try.ntmps27
    go_wp2
    go_ret; exact ⟨⟨_, rfl, fun h => by cases h⟩, Below.refl _ _⟩
  have d2 : decide ((4096 : Int) < keys.length) = false := by simpa using g2
  by_cases g3 : (4096 : Int) < rs.length
  · go_enter Try.func27, Try.ntmps27
    go_wp2
    go_ret; exact ⟨⟨_, rfl, fun h => by cases h⟩, Below.refl _ _⟩
  have d3 : decide ((4096 : Int) < rs.length) = false := by simpa using g3
  by_cases g4 : (4096 : Int) < LL.length
  · go_enter Try.func27, Try.ntmps27
    go_wp2
    go_ret; exact ⟨⟨_, rfl, fun h => by cases h⟩, Below.refl _ _⟩
  have d4 : decide ((4096 : Int) < LL.length) = false := by simpa using g4
  go_enter Try.func27, Try.ntmps27
  go_wp2_with fail
  refine C20.out.mono ?_
  rintro e w' ⟨⟨r1, rfl, hr1⟩, hw⟩
  subst hw
  rename World => w
  have HR1 := hide hr1
  clear hr1 d1 d2 d3 d4 C20
  by_cases h1 : (1048576 : Int) < r1
  · go_wp2
    go_ret; exact ⟨⟨_, rfl, fun h => by cases h⟩, Below.refl _ _⟩
  have HB := hide (HR1.out (by omega))
  clear HR1
  go_upto_block 0 with fail
  · go_ret; exact ⟨⟨_, rfl, fun h => by cases h⟩, Below.refl _ _⟩
  go_wp2
  go_loop [15, 62] (fun s i => ∃ k : Nat, k ≤ LL.length ∧ i = .int .i64 k ∧ (∃ n : Int, s = .int .i64 n) ∧ ∀ j (h : j < LL.length), j < k → LL[j].length ≤ 1048576) (fun _ i => LL.length - (intOf i).toNat)
  case atStart => exact ⟨0, Nat.zero_le _, rfl, ⟨_, rfl⟩, fun j _ h => by omega⟩
  case round =>
    obtain ⟨k, hk, rfl, ⟨s, rfl⟩, hall⟩ := hrel
    have HAll := hide hall
    clear hall
    by_cases hlt : k < LL.length
    · obtain ⟨b, off, rfl, hb, hx⟩ := HL.out (by omega)
      obtain ⟨a', c', p3, _⟩ := hx k hlt
      have HN := hide (fun (hL : LL[k].length ≤ 1048576) j (h : j < LL.length) (hj : j < k + 1) => show LL[j].length ≤ 1048576 by
        by_cases e : j = k
        · subst e; exact hL
        · exact HAll.out j h (by omega))
      clear hx
      generalize LL[k].length = L at p3 HN
      by_cases hbl : (1048576 : Int) < L
      · go_wp2
        go_ret; exact ⟨⟨_, rfl, fun h => by cases h⟩, Below.refl _ _⟩
      · go_wp2
        · go_ret; exact ⟨⟨_, rfl, fun h => by cases h⟩, Below.refl _ _⟩
        · go_round
          case rel => exact ⟨k + 1, by omega, by go_num, ⟨_, rfl⟩, HN.out (by omega)⟩
          case measure => simp [intOf]; omega
    · have HAll2 : Hid (∀ j (h : j < LL.length), LL[j].length ≤ 1048576) := fun j h => HAll.out j h (by omega)
      clear HAll
      by_cases e1 : rs.length = keys.length
      case neg =>
        have e1' : ((rs.length : Int) != (keys.length : Int)) = true := by simp; omega
        go_wp2
        go_ret; exact ⟨⟨_, rfl, fun h => by cases h⟩, Below.refl _ _⟩
      have e1' : ((rs.length : Int) != (keys.length : Int)) = false := by simp; omega
      by_cases e2 : LL.length = keys.length
      case neg =>
        have e2' : ((LL.length : Int) != (keys.length : Int)) = true := by simp; omega
        go_wp2
        go_ret; exact ⟨⟨_, rfl, fun h => by cases h⟩, Below.refl _ _⟩
      have e2' : ((LL.length : Int) != (keys.length : Int)) = false := by simp; omega
      go_wp2
      clear e1' e2'
      go_loopw [96] (fun i wr => ∃ k : Nat, k ≤ keys.length ∧ i = .int .i64 k ∧ Below w.heap.size w wr ∧ Dist keys k) (fun i _ => keys.length - (intOf i).toNat)
      case atStart => exact ⟨0, Nat.zero_le _, rfl, Below.refl _ _, fun i _ h => by omega⟩
      case round =>
        rename World => wr
        obtain ⟨m, hm, rfl, hW, hD⟩ := hrel
        have HW := hide hW
        have HD := hide hD
        clear hW hD
        by_cases hml : m < keys.length
        · have HDn := hide (fun (hq : ∀ j (h' : j < keys.length), j < m → keys[m] ≠ keys[j]) => show Dist keys (m + 1) from fun i hi hik j hj hji => by
            by_cases e : i = m
            · subst e; exact hq j hj hji
            · exact HD.out i hi (by omega) j hj hji)
          go_wp2
          go_loopw [18] (fun i wi => ∃ j : Nat, j ≤ m ∧ i = .int .i64 j ∧ Below w.heap.size w wi ∧ ∀ q (h' : q < keys.length), q < j → keys[m] ≠ keys[q]) (fun i _ => m - (intOf i).toNat)
          case atStart => exact ⟨0, Nat.zero_le _, rfl, HW.out, fun q _ h => by omega⟩
          case round =>
            rename World => wi
            obtain ⟨j, hj, rfl, hWi, hq⟩ := hrel
            have HWi := hide hWi
            have HQ := hide hq
            clear hWi hq
            by_cases hjm : j < m
            · obtain ⟨b, off, rfl, hb, hx⟩ := HK.out (by omega)
              have hbw := HS.out b hb
              have f1 := (HWi.out.cell (p := ⟨b, off + m, none⟩) hbw).trans (hx m hml)
              have f2 := (HWi.out.cell (p := ⟨b, off + j, none⟩) hbw).trans (hx j (by omega))
              have HQn := hide (fun (hne : keys[m] ≠ keys[j]) q (h' : q < keys.length) (hqj : q < j + 1) => show keys[m] ≠ keys[q] by
                by_cases e : q = j
                · subst e; exact hne
                · exact HQ.out q h' (by omega))
              clear hx
              generalize keys[m] = x1 at f1 HQn
              generalize keys[j] = x2 at f2 HQn
              have i1 : (m : Int) < (keys.length : Int) := by omega
              have i2 : (0 : Int) ≤ (m : Int) := by omega
              have i3 : (j : Int) < (keys.length : Int) := by omega
              have i4 : (0 : Int) ≤ (j : Int) := by omega
              have i5 : (j : Int) < (m : Int) := by omega
              by_cases he : x1 = x2
              · have heb : (x1 == x2) = true := by simp [he]
                clear he HQn
                go_wp2
                go_quiet (fail)
                go_wp2
                go_ret; exact ⟨⟨_, rfl, fun h => by cases h⟩, below_drewN HWi.out _⟩
              · have heb : (x1 == x2) = false := by simp [he]
                have HQ2 := hide (HQn.out he)
                clear he HQn
                go_wp2
                go_quiet (fail)
                go_wp2
                go_roundw
                case rel => exact ⟨j + 1, by omega, by go_num, below_drewN HWi.out _, HQ2.out⟩
                case measure => simp [intOf]; omega
            · go_wp2
              go_roundw
              case rel =>
                obtain rfl : j = m := by omega
                exact ⟨j + 1, by omega, by go_num, HWi.out, HDn.out HQ.out⟩
              case measure => simp [intOf]; omega
        · obtain rfl : m = keys.length := by omega
          have HF := hide (fun tt => show FitsA T rnd al keys rs LL t from ⟨HB.out, by omega, by omega, e1, e2, HAll2.out, HD.out.nodup, tt⟩)
          by_cases ht1 : t = -1
          · have HF2 := hide (HF.out (.inl ht1))
            subst ht1
            go_wp2
            go_ret; exact ⟨⟨_, rfl, fun _ => HF2.out⟩, HW.out⟩
          have ht1' : (t != -1) = true := by simpa using ht1
          by_cases ht0 : t < 0
          · go_wp2
            go_ret; exact ⟨⟨_, rfl, fun h => by cases h⟩, HW.out⟩
          obtain ⟨tn, rfl⟩ : ∃ tn : Nat, t = (tn : Int) := ⟨t.toNat, by omega⟩
          have hd0 : decide ((tn : Int) < 0) = false := by simp
          by_cases hta : tn < al.length
          case neg =>
            have hge : (al.length : Int) ≤ (tn : Int) := by omega
            go_wp2
            go_ret; exact ⟨⟨_, rfl, fun h => by cases h⟩, HW.out⟩
          have hge : decide ((al.length : Int) ≤ (tn : Int)) = false := by simp; omega
          have hge' : decide (al.length ≤ tn) = false := by simp; omega
          obtain ⟨b, off, rfl, hb, hx⟩ := HA.out (by omega)
          have f1 := (HW.out.cell (p := ⟨b, off + tn, none⟩) (HS.out b hb)).trans (hx tn hta)
          have i1 : (tn : Int) < (al.length : Int) := by omega
          have i2 : (0 : Int) ≤ (tn : Int) := by omega
          by_cases hr : al[tn] = rnd
          · have HF2 := hide (HF.out (.inr ⟨tn, rfl, hta, .inl hr⟩))
            have hrb : (al[tn] != rnd) = false := by simp [hr]
            generalize al[tn] = x at f1 hrb
            clear hx hr
            go_wp2
            go_ret; exact ⟨⟨_, rfl, fun _ => HF2.out⟩, HW.out⟩
          have hrb : (al[tn] != rnd) = true := by simp [hr]
          by_cases htT : tn < T.length
          case neg =>
            have hgT : (T.length : Int) ≤ (tn : Int) := by omega
            generalize al[tn] = x at f1 hrb
            clear hx hr
            go_wp2
            go_ret; exact ⟨⟨_, rfl, fun h => by cases h⟩, HW.out⟩
          have hgT : decide ((T.length : Int) ≤ (tn : Int)) = false := by simp; omega
          have hgT' : decide (T.length ≤ tn) = false := by simp; omega
          obtain ⟨bt, offt, rfl, hbt, hxt⟩ := HT.out (by omega)
          obtain ⟨_, _, ao, co, p3, _⟩ := hxt tn htT
          have f3 := (HW.out.cell (p := ⟨bt, offt + tn * 3 + 2, none⟩) (HS.out bt hbt)).trans p3
          have i3 : (tn : Int) < (T.length : Int) := by omega
          have HF2 := hide (fun h => HF.out (.inr ⟨tn, rfl, hta, .inr ⟨htT, h⟩⟩))
          have hol := opsSum_at T tn htT
          have hol2 : T[tn].ops.length ≤ 1048576 := by have := HB.out; omega
          generalize al[tn] = x at f1 hrb
          generalize T[tn].ops.length = L at f3 HF2 hol2
          clear hx hr p3 hxt hol
          by_cases hLb : (4096 : Int) < L
          · go_wp2
            go_ret; exact ⟨⟨_, rfl, fun h => by cases h⟩, HW.out⟩
          · have hLd : decide ((4096 : Int) < L) = false := by simpa using hLb
            have HF3 := hide (HF2.out (by omega))
            go_wp2
            go_ret; exact ⟨⟨_, rfl, fun _ => HF3.out⟩, HW.out⟩
end Go.Proofs.Qxb6602646a
