/-
  zzSessionKeys (14).
-/
import Derived.Test.Qxb6602646aKeys
namespace Go.Proofs.Qxb6602646a
open Go.RowKit

def icf (x : Int) : List Value := [.int .i64 x]
theorem icf_len (x : Int) : (icf x).length = 1 := rfl
theorem icf_flat (l : List Int) : l.flatMap icf = l.map (Value.int .i64) := by
  induction l with
  | nil => rfl
  | cons a l ih => rw [List.flatMap_cons, ih]; rfl
/-! ### The distinct ones of a sorted row -/
def nl (c : Nat → Int) (i : Nat) : List Int := (newL (pr c) i).map fun p => p.1
theorem nl_old {c : Nat → Int} {i : Nat} (h0 : 0 < i) (h : c i = c (i - 1)) : nl c (i + 1) = nl c i := by
  unfold nl
  rw [newL, if_pos ⟨h0, by simp [pr, h]⟩]
theorem nl_new {c : Nat → Int} {i : Nat} (h : ¬ (0 < i ∧ c i = c (i - 1))) : nl c (i + 1) = nl c i ++ [c i] := by
  unfold nl
  rw [newL, if_neg (fun e => h ⟨e.1, by have := e.2; simpa [pr] using this⟩), List.map_append]
  rfl
theorem nl_len (c : Nat → Int) : ∀ i, (nl c i).length ≤ i := by
  intro i
  induction i with
  | zero => exact Nat.le_refl _
  | succ i ih =>
    by_cases h : 0 < i ∧ c i = c (i - 1)
    · rw [nl_old h.1 h.2]; omega
    · rw [nl_new h, List.length_append]; simp; omega
theorem nl_mem (c : Nat → Int) (i : Nat) (x : Int) : x ∈ nl c i ↔ ∃ q, q < i ∧ c q = x := by
  unfold nl
  rw [List.mem_map]
  constructor
  · rintro ⟨p, hp, rfl⟩
    obtain ⟨q, h1, h2⟩ := (mem_newL _ _ _).1 hp
    exact ⟨q, h1, by rw [← h2]; rfl⟩
  · rintro ⟨q, h1, rfl⟩
    exact ⟨pr c q, (mem_newL _ _ _).2 ⟨q, h1, rfl⟩, rfl⟩
theorem nl_nodup {c : Nat → Int} {n : Nat} (hs : SortedTo (pr c) n) : (nl c n).Nodup := by
  have h := newL_nodup hs n (Nat.le_refl _)
  unfold nl List.Nodup
  rw [List.pairwise_map]
  refine List.Pairwise.imp_of_mem ?_ h
  intro a b ha hb hne e
  obtain ⟨q, _, rfl⟩ := (mem_newL _ _ _).1 ha
  obtain ⟨q', _, rfl⟩ := (mem_newL _ _ _).1 hb
  exact hne (Prod.ext e rfl)

def MenAt (S : Nat → Prop) (w : World) (a : Option Addr) (ms : List PMen) : Prop :=
  0 < ms.length → ∃ b, a = some ⟨b, 0, none⟩ ∧ S b ∧ ∀ i (h : i < ms.length), w.cell? ⟨b, i * 3, none⟩ = some (.int .i64 ms[i].s) ∧ w.cell? ⟨b, i * 3 + 1, none⟩ = some (.int .i64 ms[i].p) ∧ w.cell? ⟨b, i * 3 + 2, none⟩ = some (.int .i64 ms[i].t)
theorem GRel.men {w0 w : World} {ms : List PMen} {v : Value} (h : GRel 97 3 mcf w0 ms v w) : ∃ a c, v = .slice a ms.length c ∧ MenAt (· < w.heap.size) w a ms := by
  rcases h.form mcf_len with ⟨rfl, rfl⟩ | ⟨g, cap, rfl, _, h2, h3⟩
  · exact ⟨none, 0, rfl, fun h => absurd h (by simp)⟩
  · exact ⟨_, cap, rfl, fun _ => ⟨g, rfl, h2, fun i hi => ⟨h3 i hi 0 _ rfl, h3 i hi 1 _ rfl, h3 i hi 2 _ rfl⟩⟩⟩
theorem MenAt.kept {S : Nat → Prop} {w w' : World} {a : Option Addr} {ms : List PMen} (h : MenAt S w a ms) (k : SameOn S w w') : MenAt S w' a ms := fun hl => by
  obtain ⟨b, ha, hb, hx⟩ := h hl
  exact ⟨b, ha, hb, fun i hi => ⟨(k.cell hb).trans (hx i hi).1, (k.cell hb).trans (hx i hi).2.1, (k.cell hb).trans (hx i hi).2.2⟩⟩
theorem MenAt.mono {S S' : Nat → Prop} {w : World} {a : Option Addr} {ms : List PMen} (h : MenAt S w a ms) (k : ∀ b, S b → S' b) : MenAt S' w a ms := fun hl => by
  obtain ⟨b, ha, hb, hx⟩ := h hl
  exact ⟨b, ha, k b hb, hx⟩
theorem GRel.ints {w0 w : World} {l : List Int} {v : Value} (h : GRel 2 1 icf w0 l v w) : ∃ a c, v = .slice a l.length c ∧ IntsAt .i64 (· < w.heap.size) w a l := by
  rcases h.form icf_len with ⟨rfl, rfl⟩ | ⟨g, cap, rfl, _, h2, h3⟩
  · exact ⟨none, 0, rfl, fun h => absurd h (by simp)⟩
  · refine ⟨_, cap, rfl, fun _ => ⟨g, 0, rfl, h2, fun i hi => ?_⟩⟩
    have := h3 i hi 0 _ rfl
    rw [Nat.zero_add]
    simpa using this
theorem GRel.irow {w0 w : World} {l : List Int} {v : Value} (h : GRel 2 1 icf w0 l v w) (hl : 0 < l.length) : ∃ g cap, v = .slice (some ⟨g, 0, none⟩) l.length cap ∧ w0.heap.size ≤ g ∧ IRow w g l.length (fun i => l.getD i 0) := by
  rcases h.1.2 with ⟨_, h2⟩ | ⟨g, cap, cur, rfl, _⟩
  · omega
  · obtain ⟨f, h1, h2, h3, h4⟩ := owns_row h.1
    refine ⟨g, cap, rfl, owns_base h.1 rfl, cap * 1, f, h1, by rw [icf_flat, List.length_map] at h2; exact h2, fun i hi => ?_⟩
    rw [h4 i (by rw [icf_flat, List.length_map]; exact hi)]
    simp [icf_flat, hi]
theorem ksOf_snoc (T : List PTxn) (ms : List PMen) (k : Nat) (h : k < ms.length) : ksOf T (ms.take (k + 1)) = ksOf T (ms.take k) ++ wkO (opsOf T ms[k].t) := by
  rw [List.take_succ_eq_append_getElem h, ksOf_append]
  simp [ksOf]
theorem ksOf_le (T : List PTxn) (ms : List PMen) (k : Nat) : (ksOf T (ms.take k)).length ≤ (ksOf T ms).length := by
  have h : ksOf T ms = ksOf T (ms.take k) ++ ksOf T (ms.drop k) := by rw [← ksOf_append, List.take_append_drop]
  rw [h, List.length_append]; omega
theorem wkO_snoc (ops : List POp) (j : Nat) (h : j < ops.length) : wkO (ops.take (j + 1)) = wkO (ops.take j) ++ (if ops[j].kind = 1 then [ops[j].key] else []) := by
  rw [List.take_succ_eq_append_getElem h, wkO_append]
  congr 1
  unfold wkO
  by_cases e : ops[j].kind = 1 <;> simp [e]
theorem wkO_le (ops : List POp) (j : Nat) : (wkO (ops.take j)).length ≤ (wkO ops).length := by
  have h : wkO ops = wkO (ops.take j) ++ wkO (ops.drop j) := by rw [← wkO_append, List.take_append_drop]
  rw [h, List.length_append]; omega

def keysPost (T : List PTxn) (ms : List PMen) (w : World) (e : Ending) (w' : World) : Prop :=
  ∃ a c l, e = .returned (.slice a (List.length l) c) ∧ IntsAt .i64 (· < w'.heap.size) w' a l ∧ l.Nodup ∧ (∀ x, x ∈ l ↔ x ∈ ksOf T ms) ∧ l.length ≤ 4096 ∧ Below w.heap.size w w'

set_option maxHeartbeats 1000000 in
set_option maxRecDepth 20000 in
theorem keys14 (a ma : Option Addr) (c mc : Nat) (S : Nat → Prop) (T : List PTxn) (ms : List PMen) (w : World) (hT : TxnsAt S w a T) (hM : MenAt S w ma ms) (hS : ∀ b, S b → b < w.heap.size) (hTl : T.length ≤ 1048576) (hml : ms.length ≤ 4096)
    (hok : ∀ x ∈ ms, 0 ≤ x.t ∧ x.t < T.length) (hol : opsSum T ≤ 1048576) (hks : (ksOf T ms).length ≤ 4096) : Calls Try.prog 14 #[.slice a T.length c, .slice ma ms.length mc] w (keysPost T ms w) := by
  have HT := hide hT
  have HM := hide hM
  have HS := hide hS
  have HOK := hide hok
  have HOL := hide hol
  have HKS := hide hks
  clear hT hM hS hok hol hks
  go_enter Try.func14, Try.ntmps14
  go_upto_block 0 with fail
  go_cut [5] from 6 (fun v wc => GRel 2 1 icf w (ksOf T ms) v wc)
  case first =>
    go_wp2
    go_loopw [5, 14] (fun v i wr => ∃ k : Nat, k ≤ ms.length ∧ i = .int .i64 k ∧ GRel 2 1 icf w (ksOf T (ms.take k)) v wr) (fun _ i _ => ms.length - (intOf i).toNat)
    case atStart => exact ⟨0, Nat.zero_le _, rfl, GRel.nil _ _ _ _⟩
    case round =>
      rename World => wo
      obtain ⟨k, hk, rfl, hG⟩ := hrel
      have HG := hide hG
      have hwo := hG.2.size
      clear hG
      by_cases hlt : k < ms.length
      · obtain ⟨b, rfl, hbS, hx⟩ := HM.out (by omega)
        obtain ⟨g1, g2, g3⟩ := hx k hlt
        have hbw := HS.out b hbS
        have f1 := (HG.out.2.cell (p := ⟨b, k * 3, none⟩) hbw).trans g1
        have f2 := (HG.out.2.cell (p := ⟨b, k * 3 + 1, none⟩) hbw).trans g2
        have f3 := (HG.out.2.cell (p := ⟨b, k * 3 + 2, none⟩) hbw).trans g3
        obtain ⟨tn, ht1, htT⟩ : ∃ tn : Nat, ms[k].t = (tn : Int) ∧ tn < T.length := by
          have := HOK.out ms[k] (List.getElem_mem _)
          exact ⟨ms[k].t.toNat, by omega, by omega⟩
        have HSn : Hid (ksOf T (ms.take (k + 1)) = ksOf T (ms.take k) ++ wkO T[tn].ops) := by
          show _ = _
          rw [ksOf_snoc T ms k hlt, ht1, opsOf_nat T tn htT]
        rw [ht1] at f3
        generalize ms[k].s = es at f1
        generalize ms[k].p = ep at f2
        obtain ⟨bt, offt, rfl, hbt, hxt⟩ := HT.out (by omega)
        have hbtw := HS.out bt hbt
        obtain ⟨_, _, ao, co, p3, p4⟩ := hxt tn htT
        have q4 := (HG.out.2.cell (p := ⟨bt, offt + tn * 3 + 2, none⟩) hbtw).trans p3
        have q4 := cal q4 (.cells #[.int .i64 (es : Int), .int .i64 (ep : Int), .int .i64 (tn : Int)] 97)
        have HGo := hide p4
        have hol : T[tn].ops.length ≤ 1048576 := Nat.le_trans (opsSum_at T tn htT) HOL.out
        have hkl : (ksOf T (ms.take k)).length + (wkO T[tn].ops).length ≤ 4096 := by
          have e1 := ksOf_le T ms (k + 1)
          rw [HSn.out, List.length_append] at e1
          exact Nat.le_trans e1 HKS.out
        obtain ⟨t, ht⟩ : ∃ t, t = T[tn] := ⟨_, rfl⟩
        rw [← ht] at q4 HGo hol HSn hkl
        have i1 : (tn : Int) < (T.length : Int) := by omega
        have i2 : (0 : Int) ≤ (tn : Int) := by omega
        have hb3 : b < wo.heap.size := by omega
        have hb4 : bt ≠ wo.heap.size := by omega
        clear g1 g2 g3 hx p3 p4 hxt ht ht1
        go_wp2
        go_loopw [5, 25] (fun v i wr => ∃ j : Nat, j ≤ t.ops.length ∧ i = .int .i64 j ∧ GRel 2 1 icf w (ksOf T (ms.take k) ++ wkO (t.ops.take j)) v wr) (fun _ i _ => t.ops.length - (intOf i).toNat)
        case atStart => exact ⟨0, Nat.zero_le _, rfl, by simpa [wkO] using HG.out.grow ((Below.refl _ _).alloc (Nat.le_refl _) _)⟩
        case round =>
          rename World => wr
          obtain ⟨j, hj, rfl, hG⟩ := hrel
          have HGr := hide hG
          have hwr := hG.2.size
          obtain ⟨va, vc, rfl⟩ := hG.val
          clear hG f1 f2 f3 q4
          by_cases hjl : j < t.ops.length
          · obtain ⟨bo, offo, rfl, hbo, hxo⟩ := HGo.out (by omega)
            obtain ⟨p1, p2, p3⟩ := hxo j hjl
            have hbow := HS.out bo hbo
            have q1 := (HGr.out.2.cell (p := ⟨bo, offo + j * 3, none⟩) hbow).trans p1
            have q2 := (HGr.out.2.cell (p := ⟨bo, offo + j * 3 + 1, none⟩) hbow).trans p2
            have q3 := (HGr.out.2.cell (p := ⟨bo, offo + j * 3 + 2, none⟩) hbow).trans p3
            have HWs := hide (wkO_snoc t.ops j hjl)
            have hwl := wkO_le t.ops j
            obtain ⟨o, ho⟩ : ∃ o, o = t.ops[j] := ⟨_, rfl⟩
            rw [← ho] at q1 q2 q3 HWs
            have hll : (ksOf T (ms.take k) ++ wkO (t.ops.take j)).length ≤ 4096 := by rw [List.length_append]; omega
            obtain ⟨ks, hks⟩ : ∃ ks, ks = ksOf T (ms.take k) ++ wkO (t.ops.take j) := ⟨_, rfl⟩
            rw [← hks] at hll HGr
            rw [← hks]
            have HKs := hide hks
            obtain ⟨n, hn⟩ : ∃ n, n = ks.length := ⟨_, rfl⟩
            rw [← hn] at hll
            rw [← hn]
            have HHn := hide hn
            clear p1 p2 p3 hxo ho hn hks hwl
            have C17 := hide (fun w => isWrite_any o.kind o.key o.val w)
            by_cases hkd : o.kind = 1
            · have hkb : (o.kind == 1) = true := by simp [hkd]
              have HE : Hid (ksOf T (ms.take k) ++ wkO (t.ops.take (j + 1)) = ks ++ [o.key]) := by
                show _ = _
                rw [HWs.out, if_pos hkd, ← List.append_assoc, ← HKs.out]
              clear hkd
              go_upto_region 9 with (go_at_call 17; refine (C17.out _).mono ?_; rintro e w' ⟨rfl, rfl⟩)
              have k1 : ((wr.alloc (.cells #[.int .u8 o.kind, .int .i64 o.key, .int .i64 o.val] 40)).alloc (.cells #[.int .u8 o.kind, .int .i64 o.key, .int .i64 o.val] 40)).cell? ⟨wr.heap.size, 1, none⟩ = some (.int .i64 o.key) := cal (cell_box _ _ _ _ _ rfl) _
              have hBX : Below wr.heap.size wr ((wr.alloc (.cells #[.int .u8 o.kind, .int .i64 o.key, .int .i64 o.val] 40)).alloc (.cells #[.int .u8 o.kind, .int .i64 o.key, .int .i64 o.val] 40)) := ((Below.refl _ _).alloc (Nat.le_refl _) _).alloc (by simp) _
              have HGX := hide (HGr.out.grow hBX)
              obtain ⟨wX, hwX⟩ : ∃ wX, wX = (wr.alloc (.cells #[.int .u8 o.kind, .int .i64 o.key, .int .i64 o.val] 40)).alloc (.cells #[.int .u8 o.kind, .int .i64 o.key, .int .i64 o.val] 40) := ⟨_, rfl⟩
              rw [← hwX] at k1 HGX
              rw [← hwX]
              have hszX : w.heap.size ≤ wX.heap.size := HGX.out.2.size
              obtain ⟨i0, hi, hz0, hz1, hz2⟩ := info_parts info2
              have HOwn : Hid (wX.ownsRow w.heap.size 2 1 (.slice va n vc) n (ks.flatMap icf)) := by
                have := HGX.out.1
                rw [← HHn.out] at this
                exact this
              clear q1 q2 q3 hBX hwX HGr hwr
              go_wp2_with (at_builtin; refine wpList_append_lies _ rfl _ _ 31 rfl w.heap.size 2 i0 (.int .i64 0) 1 8 Try.underlying31 hi hz0 hz1 hz2 rfl (by decide) (.slice va n vc) n (ks.flatMap icf) rfl (by exact World.ownsRow.alloc HOwn.out _) ⟨wX.heap.size, 0, none⟩ 1 1 [.int .i64 o.key] rfl rfl (by exact cell_one_new _ _ _) (ints_oneCell .i64 [o.key]) (by omega) (by unfold maxLen; omega) (by omega) (by simp; omega) (wX.heap.size + 1) (by simp) ?_; intro g3 cap3 w1 hown1 hgrow1 hat1 hlt1; have HY := hide (And.intro hown1 hgrow1); clear hown1 hgrow1 hat1 hlt1)
              go_roundw
              case rel =>
                obtain ⟨y1, y2⟩ := HY.out
                obtain rfl := HHn.out
                exact ⟨j + 1, by omega, by go_num, by rw [HE.out]; exact HGX.out.push (W := wX.alloc _) ((Below.refl _ _).alloc (Nat.le_refl _) _) rfl y1 y2⟩
              case measure => simp [intOf]; omega
            · have hkb : (o.kind == 1) = false := by simp [hkd]
              have HE : Hid (ksOf T (ms.take k) ++ wkO (t.ops.take (j + 1)) = ks) := by
                show _ = _
                rw [HWs.out, if_neg hkd, List.append_nil, ← HKs.out]
              clear hkd
              go_wp2_with (go_at_call 17; refine (C17.out _).mono ?_; rintro e w' ⟨rfl, rfl⟩)
              go_roundw
              case rel =>
                obtain rfl := HHn.out
                exact ⟨j + 1, by omega, by go_num, by rw [HE.out]; exact HGr.out.grow (((Below.refl _ _).alloc (Nat.le_refl _) _).alloc (by simp) _)⟩
              case measure => simp [intOf]; omega
          · go_wp2
            go_roundw
            case rel =>
              obtain rfl : j = t.ops.length := by omega
              exact ⟨k + 1, by omega, by go_num, by rw [HSn.out]; have := HGr.out; rw [List.take_length] at this ⊢; exact this⟩
            case measure => simp [intOf]; omega
      · go_wp2
        go_meet
        case rel =>
          obtain rfl : k = ms.length := by omega
          have := HG.out
          rw [List.take_length] at this
          exact this
  case rest =>
    have HP := hide hcut
    clear hcut
    by_cases hz : (ksOf T ms).length = 0
    · have HK0 := hide (List.eq_nil_of_length_eq_zero hz)
      obtain ⟨ao, cap, hv⟩ := HP.out.val
      rw [hz] at hv
      subst hv
      have HPB := hide HP.out.2
      clear hz HP
      go_wp2_with fail
      refine (sort48_zero ao cap _).mono ?_
      rintro e w' ⟨rfl, rfl⟩
      go_wp2
      refine wp_loop_rounds 1 ?_
      rw [rounds_succ]
      go_wp2
      go_ret
      exact ⟨none, 0, [], rfl, fun h => absurd h (by simp), List.nodup_nil, fun x => by rw [HK0.out], Nat.zero_le _, HPB.out⟩
    · obtain ⟨g, cap, rfl, hgB, hrow⟩ := HP.out.irow (by omega)
      have HPB := hide HP.out.2
      have hcs := HP.out.2.size
      have HRow := hide hrow
      have hpos : 0 < (ksOf T ms).length := by omega
      have HMEM := hide (fun p => show p ∈ ksOf T ms ↔ ∃ q, q < (ksOf T ms).length ∧ (ksOf T ms).getD q 0 = p by
        constructor
        · intro h
          obtain ⟨q, h1, h2⟩ := List.getElem_of_mem h
          exact ⟨q, h1, by simp [h1, h2]⟩
        · rintro ⟨q, h1, rfl⟩
          simp [h1])
      have hn4 := HKS.out
      clear hrow HP hz
      generalize (ksOf T ms).length = n at *
      go_wp2_with fail
      refine (sort48 g n cap _ wc HRow.out (by omega)).mono ?_
      rintro e w3 ⟨rfl, c', hrow3, hsrt, hsame, hgrow⟩
      have HB3 := hide (HPB.out.grown hgrow hcs (fun k hk => by cases hk; exact hgB))
      have HR3 := hide hrow3
      have hg3 := hrow3.lt
      have HND := hide (nl_nodup hsrt)
      have HMM := hide (fun x => (nl_mem c' n x).trans ((hsame x).trans (HMEM.out x).symm))
      have hsz3 : w.heap.size ≤ w3.heap.size := HB3.out.size
      clear hrow3 hsrt hsame hgrow HRow HMEM hcs HPB
      go_wp2_with fail
      go_loopw [10, 42] (fun v i wr => ∃ k : Nat, k ≤ n ∧ i = .int .i64 k ∧ GRel 2 1 icf w3 (nl c' k) v wr) (fun _ i _ => n - (intOf i).toNat)
      case atStart => exact ⟨0, Nat.zero_le _, rfl, GRel.nil _ _ _ _⟩
      case round =>
        rename World => wr
        obtain ⟨k, hk, rfl, hG⟩ := hrel
        have HG := hide hG
        have hwr := hG.2.size
        obtain ⟨va, vc, rfl⟩ := hG.val
        clear hG
        by_cases hlt : k < n
        · have hrr := HR3.out.kept (HG.out.2.block g hg3)
          obtain ⟨x1, _⟩ := hrr.cell hlt
          have hgr : g < wr.heap.size := by omega
          have hki : (k : Int) < (n : Int) := by omega
          have hk0 : (0 : Int) ≤ (k : Int) := by omega
          obtain ⟨nb, hnb⟩ : ∃ nb, nb = decide (¬ (0 < k ∧ c' k = c' (k - 1))) := ⟨_, rfl⟩
          have HNB := hide hnb
          clear hnb
          go_upto_region 17 with fail
          go_cut [58] from 43 to 66 (fun v wd => Below wr.heap.size wr wd ∧ v = .bool nb)
          case first =>
            by_cases hk1 : 0 < k
            · obtain ⟨y1, _⟩ := hrr.cell (i := k - 1) (by omega)
              have hwr1 : IntKind.i64.wrap ((k : Int) - 1) = (k : Int) - 1 := by rw [IntKind.wrap_i64]; omega
              have htn : ((k : Int) - 1).toNat = k - 1 := by omega
              have a0 : ((k : Int) == 0) = false := by rw [beq_eq_false_iff_ne]; omega
              have a1 : (1 : Int) ≤ (k : Int) := by omega
              have a2 : ¬ (k : Int) < 1 := by omega
              have a3 : k ≠ 0 := by omega
              have a5 : 1 ≤ k := by omega
              have a6 : (k : Int) < (n : Int) + 1 := by omega
              have a7 : (k : Int) - 1 < (n : Int) := by omega
              have HD : Hid (nb = (c' k != c' (k - 1))) := by
                show _ = _
                rw [HNB.out]
                by_cases e : c' k = c' (k - 1) <;> simp [hk1, e]
              clear hrr
              generalize c' k = X at x1 HD
              generalize c' (k - 1) = Y at y1 HD
              go_quiet (fail)
              go_wp2
              go_meet
              case rel => exact ⟨below_drewN (Below.refl _ _) _, by rw [HD.out]⟩
            · obtain rfl : k = 0 := by omega
              have HD : Hid (nb = true) := by
                show _ = _
                rw [HNB.out]
                simp
              clear hrr
              go_quiet (fail)
              go_wp2
              go_meet
              case rel => exact ⟨below_drewN (Below.refl _ _) _, by rw [HD.out]⟩
          case rest =>
            rename World => wd
            obtain ⟨hBd, rfl⟩ := hcut
            have x2 := (hBd.cell (p := ⟨g, k, none⟩) hgr).trans x1
            have HGd := hide (HG.out.grow hBd)
            have hszd : w3.heap.size ≤ wd.heap.size := HGd.out.2.size
            have hll := nl_len c' k
            obtain ⟨l, hl⟩ : ∃ l, l = nl c' k := ⟨_, rfl⟩
            have HL := hide hl
            rw [← hl] at HGd hll
            rw [← hl]
            obtain ⟨m, hm⟩ : ∃ m, m = l.length := ⟨_, rfl⟩
            rw [← hm] at hll
            rw [← hm]
            have HHm := hide hm
            clear hm hl hBd x1 HG hrr
            by_cases hq : 0 < k ∧ c' k = c' (k - 1)
            · obtain rfl : nb = false := by rw [HNB.out]; simpa using hq
              have HE : Hid (nl c' (k + 1) = l) := by
                show _ = _
                rw [nl_old hq.1 hq.2, HL.out]
              clear hq
              go_wp2
              go_roundw
              case rel =>
                obtain rfl := HHm.out
                exact ⟨k + 1, by omega, by go_num, by rw [HE.out]; exact HGd.out⟩
              case measure => simp [intOf]; omega
            · obtain rfl : nb = true := by rw [HNB.out]; exact decide_eq_true hq
              have HE : Hid (nl c' (k + 1) = l ++ [c' k]) := by
                show _ = _
                rw [nl_new hq, HL.out]
              clear hq
              generalize c' k = X at x2 HE
              obtain ⟨i0, hi, hz0, hz1, hz2⟩ := info_parts info2
              have HOwn : Hid (wd.ownsRow w3.heap.size 2 1 (.slice va m vc) m (l.flatMap icf)) := by
                have := HGd.out.1
                rw [← HHm.out] at this
                exact this
              go_wp2_with (at_builtin; refine wpList_append_lies _ rfl _ _ 31 rfl w3.heap.size 2 i0 (.int .i64 0) 1 8 Try.underlying31 hi hz0 hz1 hz2 rfl (by decide) (.slice va m vc) m (l.flatMap icf) rfl (by exact World.ownsRow.alloc HOwn.out _) ⟨wd.heap.size, 0, none⟩ 1 1 [.int .i64 X] rfl rfl (by exact cell_one_new _ _ _) (ints_oneCell .i64 [X]) (by omega) (by unfold maxLen; omega) (by omega) (by simp; omega) (wd.heap.size + 1) (by simp) ?_; intro g3 cap3 w1 hown1 hgrow1 hat1 hlt1; have HY := hide (And.intro hown1 hgrow1); clear hown1 hgrow1 hat1 hlt1)
              go_roundw
              case rel =>
                obtain ⟨y1, y2⟩ := HY.out
                obtain rfl := HHm.out
                exact ⟨k + 1, by omega, by go_num, by rw [HE.out]; exact HGd.out.push (W := wd.alloc _) ((Below.refl _ _).alloc (Nat.le_refl _) _) rfl y1 y2⟩
              case measure => simp [intOf]; omega
        · go_wp2
          go_ret
          obtain rfl : k = n := by omega
          obtain ⟨a2, c2, e2, hI⟩ := HG.out.ints
          obtain ⟨rfl, rfl⟩ : va = a2 ∧ vc = c2 := by cases e2; exact ⟨rfl, rfl⟩
          exact ⟨va, vc, nl c' k, rfl, hI, HND.out, HMM.out, Nat.le_trans (nl_len c' k) hn4, HB3.out.trans (HG.out.2.mono hsz3)⟩
end Go.Proofs.Qxb6602646a
