/-
  Rows of the law's own making; ZZWritesByKey (11); zzMentions (13).
-/
import Derived.Test.Qxb6602646aWbx
import Derived.Test.Qxb6602646aWk
namespace Go.Proofs.Qxb6602646a
open Go.RowKit

/-! ### A slice that grew by append from block w0.heap.size on; cf: an element's cells. -/
def GRel {α : Type} (e : TypeId) (size : Nat) (cf : α → List Value) (w0 : World) (l : List α) (v : Value) (wr : World) : Prop :=
  wr.ownsRow w0.heap.size e size v l.length (l.flatMap cf) ∧ Below w0.heap.size w0 wr
theorem flatMap_get {α : Type} {size : Nat} {cf : α → List Value} (hc : ∀ x, (cf x).length = size) (l : List α) : ∀ i (hi : i < l.length) j, j < size → (l.flatMap cf)[i * size + j]? = (cf l[i])[j]? := by
  induction l with
  | nil => intro i hi; simp at hi
  | cons a l ih =>
    intro i hi j hj
    rw [List.flatMap_cons]
    cases i with
    | zero =>
      rw [Nat.zero_mul, Nat.zero_add, List.getElem?_append_left (by rw [hc]; exact hj)]
      rfl
    | succ i =>
      rw [List.getElem?_append_right (by rw [hc, Nat.succ_mul]; omega), hc]
      have e : (i + 1) * size + j - size = i * size + j := by rw [Nat.succ_mul]; omega
      rw [e]
      exact ih i (by simpa using hi) j hj
theorem flatMap_len {α : Type} {size : Nat} {cf : α → List Value} (hc : ∀ x, (cf x).length = size) (l : List α) : (l.flatMap cf).length = l.length * size := by
  induction l with
  | nil => simp
  | cons a l ih => rw [List.flatMap_cons, List.length_append, hc, ih, List.length_cons, Nat.succ_mul]; omega
section
variable {α : Type} {e : TypeId} {size : Nat} {cf : α → List Value} {w0 wr w' : World} {l : List α} {v : Value}
theorem GRel.nil (e : TypeId) (size : Nat) (cf : α → List Value) (w0 : World) : GRel e size cf w0 [] (.slice none 0 0) w0 := ⟨World.ownsRow_nil _ _ _ _, Below.refl _ _⟩
theorem GRel.grow (h : GRel e size cf w0 l v wr) (k : Below wr.heap.size wr w') : GRel e size cf w0 l v w' := ⟨owns_kept h.1 (fun g hg => k.block g (owns_lt h.1 hg)), h.2.trans (k.mono h.2.size)⟩
theorem GRel.push (h : GRel e size cf w0 l v wr) {W w1 : World} (hW : Below wr.heap.size wr W) {g cap : Nat} {x : α} {news : List Value} (hx : cf x = news)
    (h1 : w1.ownsRow w0.heap.size e size (.slice (some ⟨g, 0, none⟩) (l.length + 1) cap) (l.length + 1) (l.flatMap cf ++ news)) (hg : W.grownBy w1 v.ownBlock) :
    GRel e size cf w0 (l ++ [x]) (.slice (some ⟨g, 0, none⟩) (l.length + 1) cap) w1 := by
  refine ⟨?_, (h.2.trans (hW.mono h.2.size)).grown hg (Nat.le_trans h.2.size hW.size) (fun k hk => owns_base h.1 hk)⟩
  rw [List.flatMap_append, List.length_append, List.flatMap_singleton, hx]
  exact h1
theorem GRel.form (h : GRel e size cf w0 l v wr) (hc : ∀ x, (cf x).length = size) : (v = .slice none 0 0 ∧ l = []) ∨
    ∃ g cap, v = .slice (some ⟨g, 0, none⟩) l.length cap ∧ w0.heap.size ≤ g ∧ g < wr.heap.size ∧ ∀ i (hi : i < l.length) j u, (cf l[i])[j]? = some u → wr.cell? ⟨g, i * size + j, none⟩ = some u := by
  rcases h.1.2 with ⟨rfl, h2⟩ | ⟨g, cap, cur, rfl, _⟩
  · exact .inl ⟨rfl, List.eq_nil_of_length_eq_zero h2⟩
  · obtain ⟨f, h1, h2, h3, h4⟩ := owns_row h.1
    refine .inr ⟨g, cap, rfl, owns_base h.1 rfl, h1.lt, fun i hi j u hu => ?_⟩
    have hj : j < size := by
      rw [← hc l[i]]
      exact (List.getElem?_eq_some_iff.1 hu).1
    have hlt : i * size + j < (l.flatMap cf).length := by
      rw [flatMap_len hc]
      have : (i + 1) * size ≤ l.length * size := Nat.mul_le_mul_right _ hi
      rw [Nat.succ_mul] at this
      omega
    have e1 := flatMap_get hc l i hi j hj
    rw [hu, List.getElem?_eq_getElem hlt] at e1
    rw [h1.cell (by omega), h4 _ hlt, Option.some.inj e1]
theorem GRel.val (h : GRel e size cf w0 l v wr) : ∃ a c, v = .slice a l.length c := by
  rcases h.1.2 with ⟨rfl, h2⟩ | ⟨g, cap, cur, rfl, _⟩
  · exact ⟨none, 0, by rw [h2]⟩
  · exact ⟨_, cap, rfl⟩
end

/-! ### ZZWritesByKey -/
def wb11Post (T : List PTxn) (SS : List PSes) (w : World) (e : Ending) (w' : World) : Prop :=
  ∃ B wx mb recs, e = .returned (.map (some mb)) ∧ WbAt B wx w' mb recs ∧ absW recs = wbOf (seF T (txL SS) SS.length) ∧ LenW 4096 recs ∧ Below w.heap.size w w'
theorem WbAt.below {B : Nat} {w0 w : World} {mb : Nat} {recs : List (Int × WRec)} (h : WbAt B w0 w mb recs) : Below B w0 w := h.bel
set_option maxHeartbeats 400000 in
theorem wb11 (hb tc sc : Nat) (ta sa : Option Addr) (T : List PTxn) (SS : List PSes) (w : World) (c1 : w.cell? ⟨hb, 0, none⟩ = some (.slice ta T.length tc))
    (c2 : w.cell? ⟨hb, 1, none⟩ = some (.slice sa SS.length sc)) (hT : TxnsAt (· < w.heap.size) w ta T) (hSS : SessAt (· < w.heap.size) w sa SS) (hTl : T.length ≤ 1048576) (hSl : SS.length ≤ 1048576)
    (hsl : ∀ k (h : k < SS.length), SS[k].txns.length ≤ 1048576) (hok : ∀ k (h : k < SS.length), ∀ t ∈ SS[k].txns, 0 ≤ t ∧ t < T.length) (hev : (seF T (txL SS) SS.length).length ≤ 4096) :
    Calls Try.prog 11 #[.pointer (some ⟨hb, 0, none⟩)] w (wb11Post T SS w) := by
  have HC := hide (fun (arr : Array Value) (t : TypeId) (h : arr[0]? = some (.pointer (some ⟨hb, 0, none⟩))) => by
    have hB : Below w.heap.size w (w.alloc (.cells arr t)) := (Below.refl _ _).alloc (Nat.le_refl _) _
    have hsz : w.heap.size ≤ (w.alloc (.cells arr t)).heap.size := hB.size
    exact wb_any w.heap.size hb tc sc ta sa T SS (w.alloc (.cells arr t)) (cell_box _ _ _ _ _ h) (cal c1 _) (cal c2 _) ((hT.kept (SameOn.of_below hB)).mono fun b hb => Nat.lt_of_lt_of_le hb hsz) ((hSS.kept (SameOn.of_below hB)).mono fun b hb => Nat.lt_of_lt_of_le hb hsz) hTl hSl hsl hok hev)
  clear hT hSS c1 c2 hTl hSl hsl hok hev
  go_enter Try.func11, Try.ntmps11
  go_wp2_with (go_at_call 47; refine (HC.out _ _ rfl).mono ?_; rintro e w' ⟨mb, recs, rfl, h1, h2, h3⟩; have HR := hide (And.intro h1 (And.intro h2 h3)); clear h1 h2 h3)
  go_ret
  obtain ⟨h1, h2, h3⟩ := HR.out
  refine ⟨_, _, mb, recs, rfl, h1, h2, h3, ?_⟩
  exact ((Below.refl _ _).alloc (Nat.le_refl _) _).trans (h1.bel.mono (by simp))

/-! ### zzMentions -/
def mcf (m : PMen) : List Value := [.int .i64 m.s, .int .i64 m.p, .int .i64 m.t]
theorem mcf_len (m : PMen) : (mcf m).length = 3 := rfl
theorem info97 : (Try.prog.info? 97).map (fun i => (i.zero, i.size, i.bytes)) = some (some (.agg #[.int .i64 0, .int .i64 0, .int .i64 0]), 3, 24) := by kernel_rfl
def men13Post (T : List PTxn) (SS : List PSes) (w : World) (e : Ending) (w' : World) : Prop := ∃ v, e = .returned v ∧ GRel 97 3 mcf w (seM T (txL SS) SS.length) v w'
set_option maxHeartbeats 1000000 in
set_option maxRecDepth 20000 in
theorem men13 (a sa : Option Addr) (c sc : Nat) (S : Nat → Prop) (T : List PTxn) (SS : List PSes) (w : World) (hT : TxnsAt S w a T) (hSS : SessAt S w sa SS) (hS : ∀ b, S b → b < w.heap.size) (hTl : T.length ≤ 1048576) (hSl : SS.length ≤ 1048576)
    (hsl : ∀ k (h : k < SS.length), SS[k].txns.length ≤ 1048576) (hok : ∀ k (h : k < SS.length), ∀ t ∈ SS[k].txns, 0 ≤ t ∧ t < T.length) (hev : (seF T (txL SS) SS.length).length ≤ 4096) (hol : opsSum T ≤ 1048576) :
    Calls Try.prog 13 #[.slice a T.length c, .slice sa SS.length sc] w (men13Post T SS w) := by
  have HT := hide hT
  have HSS := hide hSS
  have HS := hide hS
  have HSL := hide hsl
  have HOK := hide hok
  have HEV := hide hev
  have HOL := hide hol
  clear hT hSS hS hsl hok hev hol
  go_enter Try.func13, Try.ntmps13
  go_wp2
  go_loopw [5, 11] (fun v i wr => ∃ k : Nat, k ≤ SS.length ∧ i = .int .i64 k ∧ GRel 97 3 mcf w (seM T (txL SS) k) v wr) (fun _ i _ => SS.length - (intOf i).toNat)
  case atStart => exact ⟨0, Nat.zero_le _, rfl, GRel.nil _ _ _ _⟩
  case round =>
    rename World => wo
    obtain ⟨k, hk, rfl, hG⟩ := hrel
    have HG := hide hG
    have hwo := hG.2.size
    clear hG
    by_cases hlt : k < SS.length
    · obtain ⟨b, off, rfl, hbS, hx⟩ := HSS.out (by omega)
      obtain ⟨g1, a', c', g2, g3⟩ := hx k hlt
      have hbw := HS.out b hbS
      have f2 := (HG.out.2.cell (p := ⟨b, off + k * 2 + 1, none⟩) hbw).trans g2
      have HI := hide g3
      have hxl := HSL.out k hlt
      have HOKk := hide (HOK.out k hlt)
      have HXk := hide (txL_at SS k hlt)
      obtain ⟨x, hx0⟩ : ∃ x, x = SS[k] := ⟨_, rfl⟩
      rw [← hx0] at f2 HI hxl HOKk HXk
      clear g1 g2 g3 hx hx0
      go_wp2
      go_loopw [5, 20] (fun v i wr => ∃ m : Nat, m ≤ x.txns.length ∧ i = .int .i64 m ∧ GRel 97 3 mcf w (atM T (txL SS) k m) v wr) (fun _ i _ => x.txns.length - (intOf i).toNat)
      case atStart => exact ⟨0, Nat.zero_le _, rfl, by rw [atM_zero]; exact HG.out⟩
      case round =>
        rename World => wp
        obtain ⟨m, hm, rfl, hG⟩ := hrel
        have HGp := hide hG
        have hwp := hG.2.size
        obtain ⟨va, vc, rfl⟩ := hG.val
        clear hG f2
        by_cases hml : m < x.txns.length
        · obtain ⟨b', off', rfl, hbS', hx'⟩ := HI.out (by omega)
          have q1 := (HGp.out.2.cell (p := ⟨b', off' + m, none⟩) (HS.out b' hbS')).trans (hx' m hml)
          clear hx'
          have HXm := hide (getD_at x.txns m hml)
          obtain ⟨tn, ht1, htT⟩ : ∃ tn : Nat, x.txns[m] = (tn : Int) ∧ tn < T.length := by
            have := HOKk.out x.txns[m] (List.getElem_mem _)
            exact ⟨x.txns[m].toNat, by omega, by omega⟩
          rw [ht1] at q1 HXm
          obtain ⟨bt, offt, rfl, hbt, hxt⟩ := HT.out (by omega)
          obtain ⟨_, _, ao, co, p3, p4⟩ := hxt tn htT
          have q4 := (HGp.out.2.cell (p := ⟨bt, offt + tn * 3 + 2, none⟩) (HS.out bt hbt)).trans p3
          have hol : T[tn].ops.length ≤ 1048576 := Nat.le_trans (opsSum_at T tn htT) HOL.out
          have HE : Hid (atM T (txL SS) k (m + 1) = atM T (txL SS) k m ++ (if 0 < T[tn].ops.length then [⟨k, m, (tn : Int)⟩] else [])) := by
            show _ = _
            unfold atM
            rw [plM, HXk.out, HXm.out, opsOf_nat T tn htT, List.append_assoc]
          have hML : (atM T (txL SS) k m).length ≤ 4096 := by
            have e1 := atM_le T (txL SS) (k := k) (m := m) (by rw [txL_length]; exact hlt) (by rw [HXk.out]; exact hm)
            rw [txL_length] at e1
            exact Nat.le_trans e1 HEV.out
          obtain ⟨ms, hms⟩ : ∃ ms, ms = atM T (txL SS) k m := ⟨_, rfl⟩
          rw [← hms] at HE hML HGp
          rw [← hms]
          generalize T[tn].ops.length = nl at q4 HE hol
          have i1 : (tn : Int) < (T.length : Int) := by omega
          have i2 : (0 : Int) ≤ (tn : Int) := by omega
          clear p3 p4 hxt HXm ht1 hms
          obtain ⟨n, hn⟩ : ∃ n, n = ms.length := ⟨_, rfl⟩
          rw [← hn]
          rw [← hn] at hML
          have HHn := hide hn
          clear hn
          by_cases hz : 0 < nl
          · have HE2 : Hid (atM T (txL SS) k (m + 1) = ms ++ [⟨k, m, (tn : Int)⟩]) := by
              show _ = _
              rw [HE.out, if_pos hz]
            have hzI : (0 : Int) < (nl : Int) := by omega
            obtain ⟨i0, hi, hz0, hz1, hz2⟩ := info_parts info97
            have HOwn : Hid (wp.ownsRow w.heap.size 97 3 (.slice va n vc) n (ms.flatMap mcf)) := by
              have := HGp.out.1
              rw [← HHn.out] at this
              exact this
            go_wp2_with (at_builtin; refine wpList_append_lies _ rfl _ _ 29 rfl w.heap.size 97 i0 (.agg #[.int .i64 0, .int .i64 0, .int .i64 0]) 3 24 Try.underlying29 hi hz0 hz1 hz2 rfl (by decide) (.slice va n vc) n (ms.flatMap mcf) rfl (by exact World.ownsRow.alloc HOwn.out _) ⟨wp.heap.size, 0, none⟩ 1 1 [.int .i64 (k : Int), .int .i64 (m : Int), .int .i64 (tn : Int)] rfl rfl (by exact World.news_of_block (MapKept.heap_alloc wp _).1) (by simp [Value.oneCell']) (by omega) (by unfold maxLen; omega) (by omega) (by simp; omega) (wp.heap.size + 1) (by simp) ?_; intro g3 cap3 w1 hown1 hgrow1 hat1 hlt1; have HY := hide (And.intro hown1 hgrow1); clear hown1 hgrow1 hat1 hlt1)
            go_roundw
            case rel =>
              obtain ⟨y1, y2⟩ := HY.out
              obtain rfl := HHn.out
              exact ⟨m + 1, by omega, by go_num, by rw [HE2.out]; exact HGp.out.push (W := wp.alloc _) ((Below.refl _ _).alloc (Nat.le_refl _) _) rfl y1 y2⟩
            case measure => simp [intOf]; omega
          · have HE2 : Hid (atM T (txL SS) k (m + 1) = ms) := by
              show _ = _
              rw [HE.out, if_neg hz, List.append_nil]
            have hzI : ¬ (0 : Int) < (nl : Int) := by omega
            go_wp2
            go_roundw
            case rel =>
              obtain rfl := HHn.out
              exact ⟨m + 1, by omega, by go_num, by rw [HE2.out]; exact HGp.out⟩
            case measure => simp [intOf]; omega
        · go_wp2
          go_roundw
          case rel =>
            obtain rfl : m = x.txns.length := by omega
            exact ⟨k + 1, by omega, by go_num, by rw [← atM_done, HXk.out]; exact HGp.out⟩
          case measure => simp [intOf]; omega
    · go_wp2
      go_ret
      obtain rfl : k = SS.length := by omega
      exact ⟨_, rfl, HG.out⟩
end Go.Proofs.Qxb6602646a
