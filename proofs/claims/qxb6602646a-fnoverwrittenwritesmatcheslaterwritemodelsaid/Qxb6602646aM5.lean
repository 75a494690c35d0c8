/-
  FnOverwrittenWritesMatchesLaterWriteModel, walked.
-/
import Derived.Test.Qxb6602646aOwLaw
import Derived.Deep.AppendLies
import Derived.Deep.CutBlock
namespace Go.Proofs.Qxb6602646a
open Go.RowKit

set_option maxHeartbeats 400000 in
theorem ow22 (hb tc : Nat) (ta : Option Addr) (vS : Value) (T : List PTxn) (w : World) (hr : w.rowIs hb 88 3 (hcell (.slice ta T.length tc) vS)) (hT : TxnsAt (· < w.heap.size) w ta T)
    (hn : T.length ≤ 1048576) (hsum : opsSum T ≤ 1048576) :
    Calls Try.prog 22 #[.pointer (some ⟨hb, 0, none⟩)] w (owPost T w) := by
  have HC := hide (fun w' (e : w' = w) => e ▸ ow_any hb tc ta vS T w hr hT hn hsum)
  clear hr hT hn hsum
  go_enter Try.func22, Try.ntmps22
  go_wp2_with (go_at_call 51; refine (HC.out _ rfl).mono ?_; rintro e w' ⟨v, rfl, h1, h2⟩)
  go_ret
  exact ⟨_, rfl, by assumption, by assumption⟩

def truePost (w : World) (e : Ending) (w' : World) : Prop := e = .returned (.bool true) ∧ Below w.heap.size w w'

/-- zzToHistory without sessions. -/
theorem toHistory_nil (a : Option Addr) (c : Nat) (S : Nat → Prop) (T : List PTxn) (w : World) (hT : TxnsAt S w a T) (hS : ∀ b, S b → b < w.heap.size) (hn : 48 * T.length + 24 * opsSum T ≤ 1048576) (hnil : a = none → T.length = 0) :
    Calls Try.prog 12 #[.slice a T.length c, .slice none 0 0] w (histPost T [] w) :=
  toHistory_any a none c 0 S T [] w hT (fun h => absurd h (by simp)) hS hn hnil (by simp) (fun k h => absurd h (by simp))

def kvCells (ps : List (Int × Int)) : List Value := ps.flatMap fun p => [.int .i64 p.1, .int .i64 p.2]
theorem kvCells_snoc (ps : List (Int × Int)) (p : Int × Int) : kvCells (ps ++ [p]) = kvCells ps ++ [.int .i64 p.1, .int .i64 p.2] := by simp [kvCells]
theorem kvCells_length (ps : List (Int × Int)) : (kvCells ps).length = ps.length * 2 := by
  induction ps with
  | nil => rfl
  | cons p ps ih => simp only [kvCells, List.flatMap_cons, List.length_append, List.length_cons, List.length_nil] at ih ⊢; omega
theorem kvCells_get (ps : List (Int × Int)) : ∀ i, i < ps.length → (kvCells ps)[i * 2]? = some (.int .i64 (ps.getD i (0, 0)).1) ∧ (kvCells ps)[i * 2 + 1]? = some (.int .i64 (ps.getD i (0, 0)).2) := by
  induction ps with
  | nil => intro i h; simp at h
  | cons p ps ih =>
    intro i h
    cases i with
    | zero => exact ⟨rfl, rfl⟩
    | succ i =>
      obtain ⟨h1, h2⟩ := ih i (by simpa using h)
      have e : kvCells (p :: ps) = .int .i64 p.1 :: .int .i64 p.2 :: kvCells ps := by simp [kvCells]
      rw [e]
      constructor
      · rw [show (i + 1) * 2 = (i * 2 + 1) + 1 by omega]; simpa using h1
      · rw [show (i + 1) * 2 + 1 = (i * 2 + 1 + 1) + 1 by omega]; simpa using h2

/-- The law's own list of pairs, as it stands in memory from block w2.heap.size on. -/
def PRel (w2 : World) (ps : List (Int × Int)) (v : Value) (wr : World) : Prop :=
  wr.ownsRow w2.heap.size 52 2 v ps.length (kvCells ps) ∧ Below w2.heap.size w2 wr
theorem PRel.grow {w2 : World} {ps : List (Int × Int)} {v : Value} {wr w' : World} (h : PRel w2 ps v wr) (k : Below wr.heap.size wr w') : PRel w2 ps v w' := by
  refine ⟨?_, h.2.trans (k.mono h.2.size)⟩
  obtain ⟨h1, h2⟩ := h.1
  refine ⟨h1, ?_⟩
  rcases h2 with h2 | ⟨g, cap, cur, hv, hg, hh, r⟩
  · exact .inl h2
  · exact .inr ⟨g, cap, cur, hv, hg, by rw [k.block g (Array.getElem?_eq_some_iff.1 hh).1]; exact hh, r⟩
theorem PRel.row {w2 : World} {ps : List (Int × Int)} {v : Value} {wr : World} (h : PRel w2 ps v wr) (hp : 0 < ps.length) :
    ∃ g cap, v = .slice (some ⟨g, 0, none⟩) ps.length cap ∧ w2.heap.size ≤ g ∧ KvRow wr g ps.length (fun i => ps.getD i (0, 0)) := by
  obtain ⟨⟨h1, h2⟩, _⟩ := h
  rcases h2 with ⟨_, h2⟩ | ⟨g, cap, cur, hv, hg, hh, hn, hm, hs, ht⟩
  · omega
  · refine ⟨g, cap, hv, hg, cap * 2, fun i => cur[i]!, ⟨cur, hh, hs, fun i hi => ?_⟩, by omega, fun i hi => ?_⟩
    · rw [← hs] at hi; simp [hi]
    · obtain ⟨a1, a2⟩ := kvCells_get ps i hi
      rw [← ht] at a1 a2
      rw [List.getElem?_take_of_lt (by omega)] at a1 a2
      have e1 : cur[i * 2]? = some (.int .i64 (ps.getD i (0, 0)).1) := by simpa using a1
      have e2 : cur[i * 2 + 1]? = some (.int .i64 (ps.getD i (0, 0)).2) := by simpa using a2
      exact ⟨by simp only [getElem!_def, e1], by simp only [getElem!_def, e2]⟩
theorem PRel.push {w2 : World} {ps : List (Int × Int)} {v : Value} {wr W w1 : World} (h : PRel w2 ps v wr) (hW : Below wr.heap.size wr W) {g cap : Nat} {k x : Int}
    (h1 : w1.ownsRow w2.heap.size 52 2 (.slice (some ⟨g, 0, none⟩) (ps.length + 1) cap) (ps.length + 1) (kvCells ps ++ [.int .i64 k, .int .i64 x])) (hg : W.grownBy w1 v.ownBlock) :
    PRel w2 (ps ++ [(k, x)]) (.slice (some ⟨g, 0, none⟩) (ps.length + 1) cap) w1 := by
  refine ⟨?_, (h.2.trans (hW.mono h.2.size)).grown hg (Nat.le_trans h.2.size hW.size) (fun k hk => (h.1.lt k hk).1)⟩
  rw [kvCells_snoc, List.length_append]
  exact h1
theorem info52 : (Try.prog.info? 52).map (fun i => (i.zero, i.size, i.bytes)) = some (some (.agg #[.int .i64 0, .int .i64 0]), 2, 16) := by kernel_rfl

theorem pairsTo_length (ops : List POp) (a : Nat) : (pairsTo ops a).length ≤ a := by
  induction a with
  | zero => simp [pairsTo]
  | succ a ih =>
    have : (pairAt ops a).length ≤ 1 := by unfold pairAt; split <;> simp
    simp only [pairsTo, List.length_append]
    omega
theorem pairsAll_length (T : List PTxn) : ∀ i, i ≤ T.length → (pairsAll T i).length ≤ opsSum (T.take i) := by
  intro i
  induction i with
  | zero => intro _; simp [pairsAll]
  | succ i ih =>
    intro h
    have h1 := ih (by omega)
    have h2 := pairsTo_length T[i].ops T[i].ops.length
    rw [opsSum_snoc T i h, pairsAll]
    simp only [List.getElem?_eq_getElem h, List.length_append]
    omega

def kvPost (k v : Int) (w : World) (e : Ending) (w' : World) : Prop := e = .returned (.agg #[.int .i64 k, .int .i64 v]) ∧ Below w.heap.size w w'
set_option maxHeartbeats 400000 in
theorem kv24 (k v : Int) (w : World) : Calls Try.prog 24 #[.int .i64 k, .int .i64 v] w (kvPost k v w) := by
  go_enter Try.func24, Try.ntmps24
  go_wp2
  refine bodyPost_ret (v := .agg #[.int .i64 k, .int .i64 v]) (by simp [results, Try.results24, go_sem]) rfl ⟨rfl, (Below.refl _ _).alloc (Nat.le_refl _) _⟩
theorem kv24_ext (k v : Int) {w : World} (p : Ext w) : Calls Try.prog 24 #[.int .i64 k, .int .i64 v] p.val fun e w' => e = .returned (.agg #[.int .i64 k, .int .i64 v]) ∧ ∃ q : Ext w, w' = q.val :=
  (kv24 k v p.val).mono fun _ _ ⟨h1, h2⟩ => ⟨h1, p.grow h2⟩
theorem eql52 (a1 a2 b1 b2 : Int) (w : World) : (binOp .eql 52 (.agg #[.int .i64 a1, .int .i64 a2]) (.agg #[.int .i64 b1, .int .i64 b2])).run Try.prog w = .ok (.bool (decide (a1 = b1 ∧ a2 = b2))) w := by
  rw [run_eql_struct, run_equalIn_struct w 9999 52 _ _ (by kernel_rfl) (by kernel_rfl)]
  have e2 : ∀ (w : World) (x y : Int), (Op.equalIn 9999 2 (.int .i64 x) (.int .i64 y)).run Try.prog w = .ok (x == y) w := fun w x y => run_equalIn_int w 9998 2 .i64 .i64 x y Try.underlying2
  simp only [Program.fieldsOf, Try.underlying52]
  by_cases h1 : a1 = b1 <;> by_cases h2 : a2 = b2 <;> simp [go_sem, Op.eqFields, e2, h1, h2]
set_option maxHeartbeats 400000 in
theorem sortKVs_zero (ao : Option Addr) (cap : Nat) (w : World) : Calls Try.prog 23 #[.slice ao 0 cap] w fun e w' => e = .returned (.tuple #[]) ∧ w' = w := by
  go_enter Try.func23, Try.ntmps23
  go_wp2
  refine wp_loop_rounds 1 ?_
  rw [rounds_succ]
  go_wp2
  go_end0
  exact ⟨rfl, rfl⟩
theorem PRel.zero {w2 : World} {v : Value} {wr : World} (h : PRel w2 [] v wr) : ∃ ao cap, v = .slice ao 0 cap := by
  rcases h.1.2 with ⟨h1, _⟩ | ⟨g, cap, cur, hv, _⟩
  · exact ⟨none, 0, h1⟩
  · exact ⟨_, cap, hv⟩

/-- The search for a later write: j is the next to be looked at. -/
def LaterRel (ops : List POp) (m : Nat) (key : Int) (wc : World) (j : Nat) (wr : World) : Prop :=
  m < j ∧ (∀ i, m < i → i < j → ¬ Wr (opAt ops) i key) ∧ Below wc.heap.size wc wr
theorem later_true {ops : List POp} {m j : Nat} {key : Int} (h1 : m < j) (h2 : j < ops.length) (h3 : Wr (opAt ops) j key) : later ops m key = true := (later_iff _ _ _).2 ⟨j, h1, h2, h3⟩
theorem later_false {ops : List POp} {m : Nat} {key : Int} (h : ∀ i, m < i → i < ops.length → ¬ Wr (opAt ops) i key) : later ops m key = false := by
  cases hq : later ops m key with
  | false => rfl
  | true => obtain ⟨j, a1, a2, a3⟩ := (later_iff _ _ _).1 hq; exact absurd a3 (h j a1 a2)

set_option maxHeartbeats 1000000 in
set_option maxRecDepth 20000 in
theorem main5 (a : Option Addr) (c : Nat) (S : Nat → Prop) (T : List PTxn) (w : World) (hT : TxnsAt S w a T) (hS : ∀ b, S b → b < w.heap.size) (hn : T.length ≤ maxLen) (hnil : a = none → T.length = 0) :
    Calls Try.prog 5 #[.slice a T.length c] w (truePost w) := by
  have HT := hide hT
  have HS := hide hS
  have HI := hide hnil
  have HN := hide hn
  clear hT hS hn hnil
  go_enter Try.func5, Try.ntmps5
  go_wp2_with fail
  refine (bytes19 a c S T w HT.out HN.out).mono ?_
  rintro e w' ⟨⟨r, rfl⟩, rfl⟩
  rename World => w
  cases r
  · go_wp2_with fail
    go_ret
    exact ⟨rfl, Below.refl _ _⟩
  go_wp2_with fail
  refine (txnsBytes_any a c S T _ HT.out HN.out).mono ?_
  rintro e w' ⟨⟨r, rfl, hr⟩, rfl⟩
  rename World => w
  by_cases hr1 : r ≤ 1048576
  case neg =>
    have hr2 : (1048576 : Int) < r := by omega
    clear hr hr1
    go_wp2_with fail
    go_ret
    exact ⟨rfl, Below.refl _ _⟩
  have HB := hide (hr hr1)
  clear hr
  go_wp2_with fail
  refine (totalOps_any a c S T _ HT.out (by have := HB.out; omega) (by have := HB.out; omega)).mono ?_
  rintro e w' ⟨⟨r', rfl, hr⟩, rfl⟩
  rename World => w
  by_cases hr3 : r' ≤ 4096
  case neg =>
    have hr2 : (4096 : Int) < r' := by omega
    clear hr hr3
    go_wp2_with fail
    go_ret
    exact ⟨rfl, Below.refl _ _⟩
  have HO := hide (hr hr3)
  clear hr
  go_wp2_with fail
  refine (toHistory_nil a c S T _ HT.out HS.out HB.out HI.out).mono ?_
  rintro e w1 ⟨rfl, hB1, ta, tc, sa, sc, hH, hT1, _⟩
  have HB1 := hide hB1
  have HC := hide (ow22 w.heap.size tc ta (.slice sa 0 sc) T w1 hH (hT1.mono fun b hb => hb.2) (by have := HB.out; omega) (by have := HB.out; omega))
  clear hB1 hH hT1
  go_wp2_with fail
  refine HC.out.mono ?_
  rintro e w2 ⟨v3, rfl, hOv, hB2⟩
  have HOv := hide hOv
  have hB02 := HB1.out.trans (hB2.mono HB1.out.size)
  have HB2 := hide hB02
  have hlen : T.length ≤ 1048576 := by have := HB.out; omega
  have hsz02 : w.heap.size ≤ w2.heap.size := hB02.size
  clear HC hOv hB2 hB02
  go_upto_block 0 with fail
  go_cut [4] from 5 (fun v wr => PRel w2 (pairsAll T T.length) v wr)
  case first =>
    go_wp2_with fail
    go_loopw [4, 28] (fun v i wr => ∃ k : Nat, k ≤ T.length ∧ i = .int .i64 k ∧ PRel w2 (pairsAll T k) v wr) (fun _ i _ => T.length - (intOf i).toNat)
    case atStart => exact ⟨0, Nat.zero_le _, rfl, World.ownsRow_nil _ _ _ _, Below.refl _ _⟩
    case round =>
      rename World => wo
      obtain ⟨k, hk, rfl, hP⟩ := hrel
      have HP := hide hP
      by_cases hlt : k < T.length
      · obtain ⟨b, off, rfl, hbS, hx⟩ := HT.out (by omega)
        have hbw := HS.out b hbS
        obtain ⟨_, _, a', c', g3, g4⟩ := hx k hlt
        have f3 := ((HB2.out.cell (p := ⟨b, off + k * 3 + 2, none⟩) hbw).trans g3)
        have f3 := (hP.2.cell (p := ⟨b, off + k * 3 + 2, none⟩) (by simp; omega)).trans f3
        have HG := hide ((g4.kept (fun x hx => HB2.out.block x (HS.out x hx))).mono (S' := (· < w2.heap.size)) (fun x hx => Nat.lt_of_lt_of_le (HS.out x hx) hsz02))
        have hol : T[k].ops.length ≤ 4096 := Nat.le_trans (opsSum_at T k hlt) HO.out
        have HSn := hide (opsSum_snoc T k hlt)
        obtain ⟨t, ht⟩ : ∃ t, t = T[k] := ⟨_, rfl⟩
        rw [← ht] at f3 HG hol HSn
        have HTk := hide ht
        clear g3 g4 hx ht hP
        go_wp2_with fail
        go_loopw [4, 38] (fun v i wr => ∃ m : Nat, m ≤ t.ops.length ∧ i = .int .i64 m ∧ PRel w2 (pairsAll T k ++ pairsTo t.ops m) v wr) (fun _ i _ => t.ops.length - (intOf i).toNat)
        case atStart => exact ⟨0, Nat.zero_le _, rfl, by simpa [pairsTo] using HP.out⟩
        case round =>
          rename World => wr
          obtain ⟨m, hm, rfl, hP⟩ := hrel
          have HP2 := hide hP
          have hwr := hP.2.size
          clear hP f3
          by_cases hml : m < t.ops.length
          · obtain ⟨b', off', rfl, hbS', hx'⟩ := HG.out (by omega)
            have HX := hide hx'
            obtain ⟨p1, p2, p3⟩ := hx' m hml
            have q1 := (HP2.out.2.cell (p := ⟨b', off' + m * 3, none⟩) hbS').trans p1
            have q2 := (HP2.out.2.cell (p := ⟨b', off' + m * 3 + 1, none⟩) hbS').trans p2
            have q3 := (HP2.out.2.cell (p := ⟨b', off' + m * 3 + 2, none⟩) hbS').trans p3
            have HOm := hide (opAt_eq t.ops m hml)
            obtain ⟨o, ho⟩ : ∃ o, o = t.ops[m] := ⟨_, rfl⟩
            rw [← ho] at q1 q2 q3 HOm
            have hbr : b' < wr.heap.size := by omega
            clear p1 p2 p3 hx' ho
            have C17 := hide (fun w => isWrite_any o.kind o.key o.val w)
            by_cases hkd : o.kind = 1
            · have hkb : (o.kind == 1) = true := by simp [hkd]
              have HK := hide hkd
              clear hkd
              go_upto_block 4 with (go_at_call 17; refine (C17.out _).mono ?_; rintro e w' ⟨rfl, rfl⟩)
              go_cut [8] from 39 to 88 (fun v wc => v = .bool (later t.ops m o.key) ∧ Below wr.heap.size wr wc)
              case first =>
                go_wp2_with fail
                go_loopw [8, 9] (fun v8 v9 wi => ∃ j : Nat, v8 = .bool false ∧ v9 = .int .i64 j ∧ j ≤ t.ops.length ∧ LaterRel t.ops m o.key wr j wi) (fun _ i _ => t.ops.length - (intOf i).toNat)
                case atStart => exact ⟨m + 1, rfl, by go_num, hml, by omega, fun i h1 h2 => by omega, (Below.refl _ _).alloc (Nat.le_refl _) _⟩
                case round =>
                  rename World => wi
                  obtain ⟨j, rfl, rfl, hjl, hmj, hno, hBi⟩ := hrel
                  have HNO := hide hno
                  have HBi := hide hBi
                  clear hno
                  have y2 := (hBi.cell (p := ⟨b', off' + m * 3 + 1, none⟩) hbr).trans q2
                  have hwi := hBi.size
                  clear hBi q1 q2 q3
                  by_cases hj : j < t.ops.length
                  · obtain ⟨p1, p2, p3⟩ := HX.out j hj
                    have s1 := (HBi.out.cell (p := ⟨b', off' + j * 3, none⟩) hbr).trans ((HP2.out.2.cell (p := ⟨b', off' + j * 3, none⟩) hbS').trans p1)
                    have s2 := (HBi.out.cell (p := ⟨b', off' + j * 3 + 1, none⟩) hbr).trans ((HP2.out.2.cell (p := ⟨b', off' + j * 3 + 1, none⟩) hbS').trans p2)
                    have s3 := (HBi.out.cell (p := ⟨b', off' + j * 3 + 2, none⟩) hbr).trans ((HP2.out.2.cell (p := ⟨b', off' + j * 3 + 2, none⟩) hbS').trans p3)
                    have HOj := hide (opAt_eq t.ops j hj)
                    obtain ⟨o2, ho2⟩ : ∃ o2, o2 = t.ops[j] := ⟨_, rfl⟩
                    rw [← ho2] at s1 s2 s3 HOj
                    clear p1 p2 p3 ho2 C17
                    have D17 := hide (fun w => isWrite_any o2.kind o2.key o2.val w)
                    have i1 : (j : Int) < (t.ops.length : Int) := by omega
                    have i2 : (m : Int) < (t.ops.length : Int) := by omega
                    have i3 : (0 : Int) ≤ (j : Int) := by omega
                    have i4 : (0 : Int) ≤ (m : Int) := by omega
                    have i5 : b' ≠ wi.heap.size := by omega
                    by_cases hk2 : o2.kind = 1
                    · have hkb2 : (o2.kind == 1) = true := by simp [hk2]
                      by_cases hky : o2.key = o.key
                      · have hkyb : (o2.key == o.key) = true := by simp [hky]
                        have HK2 := hide hk2
                        have HKY := hide hky
                        clear hk2 hky
                        go_wp2_with fail
                        go_region_held3 (fun w' => w'.cell? ⟨b', off' + j * 3, none⟩ = some (.int .u8 o2.kind) ∧ w'.cell? ⟨b', off' + j * 3 + 1, none⟩ = some (.int .i64 o2.key) ∧ w'.cell? ⟨b', off' + j * 3 + 2, none⟩ = some (.int .i64 o2.val) ∧ w'.cell? ⟨b', off' + m * 3 + 1, none⟩ = some (.int .i64 o.key)) (go_keep)
                          (first | (go_at_call 17; refine (D17.out _).mono ?_; rintro e w' ⟨rfl, rfl⟩))
                        go_wp2_with fail
                        go_meet
                        case rel => exact ⟨by rw [later_true hmj hj ⟨by rw [HOj.out]; exact HK2.out, by rw [HOj.out]; exact HKY.out⟩], (HBi.out.alloc hwi _).drew⟩
                      · have hkyb : (o2.key == o.key) = false := by simp [hky]
                        have HK2 := hide hk2
                        have HKY := hide hky
                        clear hk2 hky
                        go_wp2_with fail
                        go_region_held3 (fun w' => w'.cell? ⟨b', off' + j * 3, none⟩ = some (.int .u8 o2.kind) ∧ w'.cell? ⟨b', off' + j * 3 + 1, none⟩ = some (.int .i64 o2.key) ∧ w'.cell? ⟨b', off' + j * 3 + 2, none⟩ = some (.int .i64 o2.val) ∧ w'.cell? ⟨b', off' + m * 3 + 1, none⟩ = some (.int .i64 o.key)) (go_keep)
                          (first | (go_at_call 17; refine (D17.out _).mono ?_; rintro e w' ⟨rfl, rfl⟩))
                        go_wp2_with fail
                        go_roundw
                        case rel =>
                          refine ⟨j + 1, rfl, by go_num, by omega, by omega, fun i h1 h2 => ?_, (HBi.out.alloc hwi _).drew⟩
                          by_cases e : i = j
                          · subst e; exact fun hw => HKY.out (by have := hw.2; rw [HOj.out] at this; exact this)
                          · exact HNO.out i h1 (by omega)
                        case measure => simp [intOf]; omega
                    · have hkb2 : (o2.kind == 1) = false := by simp [hk2]
                      have HK2 := hide hk2
                      clear hk2
                      have D17f := hide (fun (p : Ext wi) => isWrite_ext false o2.kind o2.key o2.val hkb2 p)
                      have xc := @Ext.cell wi
                      have xn := Ext.some wi
                      have hbi : b' < wi.heap.size := by omega
                      go_wp2_with fail
                      refine wp_region_ext (by kernel_rfl) (by kernel_rfl) ?_
                      repeat (go_big_quiet_step (exact D17f.out _))
                      refine wpQuiet_nil ?_
                      rintro _ ⟨px, rfl⟩
                      go_wp2_with fail
                      go_roundw
                      case rel =>
                        refine ⟨j + 1, rfl, by go_num, by omega, by omega, fun i h1 h2 => ?_, HBi.out.trans (px.prop.mono hwi)⟩
                        by_cases e : i = j
                        · subst e; exact fun hw => HK2.out (by have := hw.1; rw [HOj.out] at this; exact this)
                        · exact HNO.out i h1 (by omega)
                      case measure => simp [intOf]; omega
                  · go_wp2_with fail
                    go_meet
                    case rel => exact ⟨by rw [later_false (fun i h1 h2 => HNO.out i h1 (by omega))], HBi.out⟩
              case rest =>
                obtain ⟨rfl, hBc⟩ := hcut
                have HBc := hide hBc
                have y2 := (hBc.cell (p := ⟨b', off' + m * 3 + 1, none⟩) hbr).trans q2
                have y3 := (hBc.cell (p := ⟨b', off' + m * 3 + 2, none⟩) hbr).trans q3
                have HPc := hide (HP2.out.grow hBc)
                have hwc := hBc.size
                clear hBc q1 q2 q3 C17
                cases hlat : later t.ops m o.key with
                | false =>
                  have HL := hide hlat
                  clear hlat
                  go_wp2_with fail
                  go_roundw
                  case rel =>
                    refine ⟨m + 1, by omega, by go_num, ?_⟩
                    have e2 : pairsTo t.ops (m + 1) = pairsTo t.ops m := by
                      rw [pairsTo, pairAt, HOm.out, if_neg (fun h => by rw [HL.out] at h; cases h.2), List.append_nil]
                    rw [e2]
                    exact HPc.out
                  case measure => simp [intOf]; omega
                | true =>
                  have HL := hide hlat
                  clear hlat
                  have hlenp : (pairsAll T k ++ pairsTo t.ops m).length ≤ 4096 := by
                    have e1 := pairsAll_length T k (by omega)
                    have e2 := pairsTo_length t.ops m
                    have e3 := HSn.out
                    have e4 := opsSum_take_le T (k + 1)
                    have e5 := HO.out
                    rw [List.length_append]
                    omega
                  obtain ⟨ps, hps⟩ : ∃ ps, ps = pairsAll T k ++ pairsTo t.ops m := ⟨_, rfl⟩
                  rw [← hps] at hlenp HPc
                  have HPS := hide hps
                  obtain ⟨i0, hi, hz0, hz1, hz2⟩ := info_parts info52
                  have i2 : (m : Int) < (t.ops.length : Int) := by omega
                  have i4 : (0 : Int) ≤ (m : Int) := by omega
                  have i5 : b' ≠ wc.heap.size := by omega
                  clear hps
                  go_wp2_with fail
                  go_region_held3 (fun w' => w'.cell? ⟨b', off' + m * 3 + 1, none⟩ = some (.int .i64 o.key) ∧ w'.cell? ⟨b', off' + m * 3 + 2, none⟩ = some (.int .i64 o.val)) (go_keep)
                    (first | (refine step_append_lies _ rfl (.tmp 74) (.tmp 86) 50 rfl w2.heap.size 52 i0 (.agg #[.int .i64 0, .int .i64 0]) 2 16 Try.underlying50 hi hz0 hz1 hz2 rfl (by decide) u4 ps.length (kvCells ps) rfl (by exact HPc.out.1.alloc _) ⟨wc.heap.size, 0, none⟩ 1 1 [.int .i64 o.key, .int .i64 o.val] rfl rfl (by exact World.news_of_block (MapKept.heap_alloc wc _).1) (by simp [Value.oneCell']) (by omega) (by unfold maxLen; omega) (by omega) (by simp; omega) _ rfl ?_; intro g cap w1 hown1 hgrow1 hat1 hlt1; have k2 : w1.cell? ⟨b', off' + m * 3 + 1, none⟩ = some (.int .i64 o.key) := (push_cell hgrow1 (fun k hk => (HPc.out.1.lt k hk).1) hbS' (by simp; omega)).trans (cal y2 _); have k3 : w1.cell? ⟨b', off' + m * 3 + 2, none⟩ = some (.int .i64 o.val) := (push_cell hgrow1 (fun k hk => (HPc.out.1.lt k hk).1) hbS' (by simp; omega)).trans (cal y3 _); have HOW := hide hown1; have HGR := hide hgrow1; clear hown1 hgrow1 hat1 hlt1))
                  go_wp2_with fail
                  go_roundw
                  case rel =>
                    have e2 : pairsAll T k ++ pairsTo t.ops (m + 1) = ps ++ [(o.key, o.val)] := by
                      rw [pairsTo, pairAt, HOm.out, if_pos ⟨HK.out, HL.out⟩, HPS.out, List.append_assoc]
                    refine ⟨m + 1, by omega, by go_num, ?_⟩
                    rw [e2]
                    exact PRel.push HPc.out ((Below.refl _ _).alloc (Nat.le_refl _) _).drew HOW.out HGR.out
                  case measure => simp [intOf]; omega
            · have hkb : (o.kind == 1) = false := by simp [hkd]
              have HK := hide hkd
              clear hkd
              go_wp2_with (go_at_call 17; refine (C17.out _).mono ?_; rintro e w' ⟨rfl, rfl⟩)
              go_roundw
              case rel =>
                refine ⟨m + 1, by omega, by go_num, ?_⟩
                have e2 : pairsTo t.ops (m + 1) = pairsTo t.ops m := by
                  rw [pairsTo, pairAt, HOm.out, if_neg (fun h => HK.out h.1), List.append_nil]
                rw [e2]
                exact HP2.out.grow ((Below.refl _ _).alloc (Nat.le_refl _) _)
              case measure => simp [intOf]; omega
          · go_wp2_with fail
            go_roundw
            case rel =>
              refine ⟨k + 1, by omega, by go_num, ?_⟩
              have e1 : m = t.ops.length := by omega
              have e2 : pairsAll T (k + 1) = pairsAll T k ++ pairsTo t.ops m := by
                rw [pairsAll, List.getElem?_eq_getElem hlt, ← HTk.out, e1]
              rw [e2]
              exact HP2.out
            case measure => simp [intOf]; omega
      · clear hP
        go_wp2_with fail
        go_meet
        case rel =>
          obtain rfl : k = T.length := by omega
          exact HP.out
  case rest =>
    have HP := hide hcut
    clear hcut
    by_cases hz : (pairsAll T T.length).length = 0
    · -- no pair
      have hp0 : pairsAll T T.length = [] := List.eq_nil_of_length_eq_zero hz
      have hL0 : owAll T = [] := by
        cases hq : owAll T with
        | nil => rfl
        | cons p l =>
          have := (same_members T p).1 (by rw [hq]; simp)
          rw [hp0] at this
          cases this
      obtain ⟨ao, cap, hv4⟩ := PRel.zero (hp0 ▸ HP.out)
      have hv3 : v3 = .map none := by
        rcases HOv.out with ⟨h, _⟩ | ⟨_, _, _, h, _⟩
        · exact h
        · exact absurd hL0 h
      subst hv3 hv4
      have HPB := hide HP.out.2
      have q48 := eql_nil48
      clear hz hp0 hL0 HP
      go_wp2_with fail
      refine (sortKVs_zero ao cap _).mono ?_
      rintro e w' ⟨rfl, rfl⟩
      go_wp2
      refine wp_loop_rounds 1 ?_
      rw [rounds_succ]
      go_wp2
      go_ret
      exact ⟨rfl, HB2.out.trans (HPB.out.mono hsz02)⟩
    · -- some pairs: the map is there
      have hpos : 0 < (pairsAll T T.length).length := by omega
      obtain ⟨g, cap, hv4, hgB, hrow⟩ := HP.out.row hpos
      have hlen4 : (pairsAll T T.length).length ≤ 4096 := by
        have e1 := pairsAll_length T T.length (Nat.le_refl _)
        have e2 := opsSum_take_le T T.length
        have e3 := HO.out
        omega
      have hLne : owAll T ≠ [] := fun h0 => by
        obtain ⟨p, hp⟩ : ∃ p, p ∈ pairsAll T T.length := by
          cases hq : pairsAll T T.length with
          | nil => rw [hq] at hpos; simp at hpos
          | cons p l => exact ⟨p, by simp⟩
        have := (same_members T p).2 hp
        rw [h0] at this
        cases this
      obtain ⟨r, hv3, hMr⟩ : ∃ r, v3 = .map (some r) ∧ MapAt kvkey w2 r (vB (owAll T)) := by
        rcases HOv.out with ⟨_, h⟩ | ⟨r, h1, _, _, h4⟩
        · exact absurd h hLne
        · exact ⟨r, h1, h4⟩
      have hrlt := hMr.lt
      have HPB := hide HP.out.2
      have hcs := HP.out.2.size
      have HMc := hide (hMr.kept (HP.out.2.block r hrlt))
      have HRow := hide hrow
      have HMEM := hide (fun p => (same_members T p).trans (show p ∈ pairsAll T T.length ↔ ∃ q, q < (pairsAll T T.length).length ∧ (pairsAll T T.length).getD q (0, 0) = p by
        constructor
        · intro h
          obtain ⟨q, h1, h2⟩ := List.getElem_of_mem h
          exact ⟨q, h1, by simp [h1, h2]⟩
        · rintro ⟨q, h1, rfl⟩
          simp [h1]))
      have HNd := hide (owAll_nodup T)
      have HLne := hide hLne
      subst hv3 hv4
      generalize (pairsAll T T.length) = ps at *
      generalize hn : ps.length = n at hpos hlen4 HRow HMEM ⊢
      have q48 := eql_nil48
      clear hz HP hrow hMr hLne HOv hn HT
      go_wp2_with fail
      refine (sortKVs_any g n cap _ wc HRow.out (by omega)).mono ?_
      rintro e w3 ⟨rfl, c', hrow3, hsrt, hsame, hgrow⟩
      have hM3 : MapAt kvkey w3 r (vB (owAll T)) := HMc.out.kept (hgrow.block r (by omega) (by simp; omega))
      have hB3 : Below w2.heap.size w2 w3 := HPB.out.grown hgrow hcs (fun k hk => by cases hk; exact hgB)
      have hcnt : cnt c' n = (owAll T).length := cnt_eq hsrt HNd.out (fun p => (HMEM.out p).trans (hsame p).symm)
      have hin : ∀ q, q < n → c' q ∈ owAll T := fun q hq => (HMEM.out (c' q)).2 ((hsame (c' q)).1 ⟨q, hq, rfl⟩)
      have HM3 := hide hM3
      have HB3 := hide hB3
      have HCN := hide hcnt
      have HIN := hide hin
      have HR3 := hide hrow3
      have hg3 := hrow3.lt
      have hr3 := hM3.lt
      clear hrow3 hsrt hsame hgrow hM3 hB3 hcnt hin HRow HMc HMEM HNd
      go_wp2_with fail
      go_loopw [10, 94] (fun d i wr => ∃ k : Nat, k ≤ n ∧ i = .int .i64 k ∧ d = .int .i64 (cnt c' k : Nat) ∧ Below w3.heap.size w3 wr) (fun _ i _ => n - (intOf i).toNat)
      case atStart => exact ⟨0, Nat.zero_le _, rfl, rfl, Below.refl _ _⟩
      case round =>
        obtain ⟨k, hk, rfl, rfl, hBr⟩ := hrel
        have HBr := hide hBr
        have hwr := hBr.size
        clear hBr
        by_cases hkn : k < n
        · have hrowr := HR3.out.kept (HBr.out.block g hg3)
          obtain ⟨x1, x2, _, _⟩ := hrowr.cells hkn
          have hgr : g < wr.heap.size := by omega
          have xc := @Ext.cell wr
          have xn := Ext.some wr
          have HMr := hide (HM3.out.kept (HBr.out.block r hr3))
          have hcle : (cnt c' k : Int) ≤ k := by
            have : ∀ i, cnt c' i ≤ i := by
              intro i
              induction i with
              | zero => exact Nat.le_refl _
              | succ i ih => unfold cnt; split <;> omega
            have := this k
            omega
          have hki : (k : Int) < (n : Int) := by omega
          have hk0 : (0 : Int) ≤ (k : Int) := by omega
          have hmem := HIN.out k hkn
          have hlk : ∀ p : Ext wr, (Instr.lookup 48 (.map (some r)) (.agg #[.int .i64 (c' k).1, .int .i64 (c' k).2]) true).run Try.prog p.val = .ok (.tuple #[.bool true, .bool true]) p.val := fun p => by
            have h := run_lookup_at kv_enc Try.underlying48 (HMr.out.kept (p.prop.block r HMr.out.lt)) (.bool false) (by kernel_rfl) (c' k) true
            rw [lk_vB, if_pos hmem] at h
            exact h
          have C24 := hide (fun (p : Ext wr) => kv24_ext (c' k).1 (c' k).2 p)
          have q52 := eql52
          by_cases hk1 : 0 < k
          · obtain ⟨y1, y2, _, _⟩ := hrowr.cells (i := k - 1) (by omega)
            have hwr1 : IntKind.i64.wrap ((k : Int) - 1) = (k : Int) - 1 := by rw [IntKind.wrap_i64]; omega
            have htn : ((k : Int) - 1).toNat = k - 1 := by omega
            have a0 : (0 : Int) < (k : Int) := by omega
            have a1 : (1 : Int) ≤ (k : Int) := by omega
            have a2 : ¬ (k : Int) < 1 := by omega
            have a3 : k ≠ 0 := by omega
            have a5 : 1 ≤ k := by omega
            have a6 : (k : Int) < (n : Int) + 1 := by omega
            have a7 : (k : Int) - 1 < (n : Int) := by omega
            by_cases hsame : c' k = c' (k - 1)
            · have hsb : decide ((c' k).1 = (c' (k - 1)).1 ∧ (c' k).2 = (c' (k - 1)).2) = true := by rw [hsame]; simp
              have HE : Hid (cnt c' (k + 1) = cnt c' k) := by
                show cnt c' k + (if 0 < k ∧ c' k = c' (k - 1) then 0 else 1) = cnt c' k
                rw [if_pos ⟨hk1, hsame⟩, Nat.add_zero]
              clear hsame hrowr hmem hlk C24
              generalize c' k = X at x1 x2 hsb
              generalize c' (k - 1) = Y at y1 y2 hsb
              go_wp2_with fail
              refine wp_region_ext (by kernel_rfl) (by kernel_rfl) ?_
              repeat (go_big_quiet_step (fail))
              refine wpQuiet_nil ?_
              rintro _ ⟨px, rfl⟩
              go_wp2_with fail
              go_roundw
              case rel => exact ⟨k + 1, by omega, by go_num, by rw [HE.out], HBr.out.trans (px.prop.mono hwr)⟩
              case measure => simp [intOf]; omega
            · have hsb : decide ((c' k).1 = (c' (k - 1)).1 ∧ (c' k).2 = (c' (k - 1)).2) = false := by
                rw [decide_eq_false_iff_not]
                exact fun h => hsame (Prod.ext h.1 h.2)
              have HE : Hid (cnt c' (k + 1) = cnt c' k + 1) := by
                show cnt c' k + (if 0 < k ∧ c' k = c' (k - 1) then 0 else 1) = cnt c' k + 1
                rw [if_neg (fun h => hsame h.2)]
              clear hsame hrowr hmem
              generalize c' k = X at x1 x2 hsb hlk C24
              generalize c' (k - 1) = Y at y1 y2 hsb
              go_wp2_with fail
              refine wp_region_ext (by kernel_rfl) (by kernel_rfl) ?_
              repeat (go_big_quiet_step (fail))
              refine wpQuiet_nil ?_
              rintro _ ⟨px, rfl⟩
              have HPX := hide px.prop
              have z1 := (xc px g (k * 2) hgr).trans x1
              have z2 := (xc px g (k * 2 + 1) hgr).trans x2
              have hlk2 : ∀ p : Ext px.val, (Instr.lookup 48 (.map (some r)) (.agg #[.int .i64 X.1, .int .i64 X.2]) true).run Try.prog p.val = .ok (.tuple #[.bool true, .bool true]) p.val := fun p => hlk ⟨p.val, px.prop.trans (p.prop.mono px.prop.size)⟩
              have C24b := hide (fun (p : Ext px.val) => kv24_ext X.1 X.2 p)
              have hgp : g < px.val.heap.size := Nat.lt_of_lt_of_le hgr px.prop.size
              clear xc xn hlk C24 x1 x2 y1 y2 HMr q52 hwr1 htn a0 a1 a2 a3 a5 a6 a7 hsb
              obtain ⟨wy, hwy⟩ : ∃ wy, wy = px.val := ⟨_, rfl⟩
              rw [← hwy] at z1 z2 hlk2 C24b hgp HPX
              rw [← hwy]
              clear hwy px
              have xc := @Ext.cell wy
              have xn := Ext.some wy
              go_wp2_with fail
              refine wp_region_ext (by kernel_rfl) (by kernel_rfl) ?_
              repeat (go_big_quiet_step (exact C24b.out _))
              refine wpQuiet_nil ?_
              rintro _ ⟨pz, rfl⟩
              go_wp2_with fail
              go_roundw
              case rel => exact ⟨k + 1, by omega, by go_num, by rw [HE.out]; go_num, HBr.out.trans ((HPX.out.mono hwr).trans (pz.prop.mono (Nat.le_trans hwr HPX.out.size)))⟩
              case measure => simp [intOf]; omega
          · have hd : decide ((0 : Int) < (k : Int)) = false := by simp; omega
            have HE : Hid (cnt c' (k + 1) = cnt c' k + 1) := by
              show cnt c' k + (if 0 < k ∧ c' k = c' (k - 1) then 0 else 1) = cnt c' k + 1
              rw [if_neg (fun h => hk1 h.1)]
            clear hrowr hmem
            generalize c' k = X at x1 x2 hlk C24
            go_wp2_with fail
            refine wp_region_ext (by kernel_rfl) (by kernel_rfl) ?_
            repeat (go_big_quiet_step (fail))
            refine wpQuiet_nil ?_
            rintro _ ⟨px, rfl⟩
            have HPX := hide px.prop
            have z1 := (xc px g (k * 2) hgr).trans x1
            have z2 := (xc px g (k * 2 + 1) hgr).trans x2
            have hlk2 : ∀ p : Ext px.val, (Instr.lookup 48 (.map (some r)) (.agg #[.int .i64 X.1, .int .i64 X.2]) true).run Try.prog p.val = .ok (.tuple #[.bool true, .bool true]) p.val := fun p => hlk ⟨p.val, px.prop.trans (p.prop.mono px.prop.size)⟩
            have C24b := hide (fun (p : Ext px.val) => kv24_ext X.1 X.2 p)
            have hgp : g < px.val.heap.size := Nat.lt_of_lt_of_le hgr px.prop.size
            clear xc xn hlk C24 x1 x2 HMr q52 hd
            obtain ⟨wy, hwy⟩ : ∃ wy, wy = px.val := ⟨_, rfl⟩
            rw [← hwy] at z1 z2 hlk2 C24b hgp HPX
            rw [← hwy]
            clear hwy px
            have xc := @Ext.cell wy
            have xn := Ext.some wy
            go_wp2_with fail
            refine wp_region_ext (by kernel_rfl) (by kernel_rfl) ?_
            repeat (go_big_quiet_step (exact C24b.out _))
            refine wpQuiet_nil ?_
            rintro _ ⟨pz, rfl⟩
            go_wp2_with fail
            go_roundw
            case rel => exact ⟨k + 1, by omega, by go_num, by rw [HE.out]; go_num, HBr.out.trans ((HPX.out.mono hwr).trans (pz.prop.mono (Nat.le_trans hwr HPX.out.size)))⟩
            case measure => simp [intOf]; omega
        · obtain rfl : k = n := by omega
          have HMr := hide (HM3.out.kept (HBr.out.block r hr3))
          have hc0 : cnt c' k ≠ 0 := fun h0 => HLne.out (List.eq_nil_of_length_eq_zero (by rw [← HCN.out, h0]))
          have hb1 : (((cnt c' k : Nat) : Int) == 0) = false := by simp; omega
          have hb2 : ((((vB (owAll T)).length : Nat) : Int) == ((cnt c' k : Nat) : Int)) = true := by rw [HCN.out, show (vB (owAll T)).length = (owAll T).length from List.length_map _]; simp
          go_wp2_with (at_len; refine wpList_len_at rfl _ 48 56 4 rfl Try.underlying48 HMr.out rfl ?_)
          go_ret
          refine ⟨?_, HB2.out.trans ((HB3.out.trans (HBr.out.mono (by have := HB3.out.size; omega))).mono hsz02)⟩
          first | rfl | exact congrArg (fun b => Ending.returned (Value.bool b)) hb2
end Go.Proofs.Qxb6602646a
