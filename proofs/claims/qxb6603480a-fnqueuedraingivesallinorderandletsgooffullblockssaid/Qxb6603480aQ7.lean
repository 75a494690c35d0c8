/-
  ZZQueueState (12).
-/
import Derived.Test.Qxb6603480aQ6
namespace Go.Proofs.Qxb6603480a
open Go.RowKit

theorem rows_own_ne {B size n : Nat} {w : World} {e t : TypeId} {v : Value} {xs : List Value} {b m g : Nat} {f : Nat → Value} (h : w.rowIs b t m f) (k : w.ownsRow B e size v n xs) (ht : t ≠ e) (hg : v.ownBlock = some g) : b ≠ g := by
  rintro rfl
  obtain ⟨c, h1, _⟩ := h
  obtain ⟨cur, h2⟩ := owns_block k hg
  rw [h1] at h2
  cases h2
  exact ht rfl
def URow (w : World) (b : Nat) (l : List Int) : Prop := ∃ f, w.rowIs b 31 l.length f ∧ ∀ j (h : j < l.length), f j = .int .u32 l[j]
theorem URow.kept {w w' : World} {b : Nat} {l : List Int} (h : URow w b l) (e : w'.heap[b]? = w.heap[b]?) : URow w' b l := by
  obtain ⟨f, h1, h2⟩ := h
  exact ⟨f, h1.of_block e, h2⟩
theorem URow.lt {w : World} {b : Nat} {l : List Int} (h : URow w b l) : b < w.heap.size := by
  obtain ⟨f, h1, h2⟩ := h
  exact h1.lt
theorem URow.ints {w : World} {b : Nat} {l : List Int} (h : URow w b l) : IntsAt .u32 (· < w.heap.size) w (some ⟨b, 0, none⟩) l := fun _ => by
  obtain ⟨f, h1, h2⟩ := h
  exact ⟨b, 0, rfl, h1.lt, fun j hj => by rw [Nat.zero_add, h1.cell hj, h2 j hj]⟩
/-- One column as it grows. -/
structure Col (w0 : World) (X : List (List Int)) (us : List Value) (v : Value) (wr : World) : Prop where
  own : GRel 26 1 vcf w0 us v wr
  each : ∀ i (h : i < us.length) (hX : i < X.length), ∃ b, us[i] = .slice (some ⟨b, 0, none⟩) X[i].length X[i].length ∧ URow wr b X[i]
theorem Col.grow {w0 wr w' : World} {X : List (List Int)} {us : List Value} {v : Value} (h : Col w0 X us v wr) (k : Below wr.heap.size wr w') : Col w0 X us v w' :=
  ⟨h.own.grow k, fun i hi hX => by
    obtain ⟨b, h1, h2⟩ := h.each i hi hX
    exact ⟨b, h1, h2.kept (k.block _ h2.lt)⟩⟩
/-- Both columns. -/
def Cols (w0 : World) (X Y : List (List Int)) (us ts : List Value) (v1 v2 : Value) (wr : World) : Prop := Col w0 X us v1 wr ∧ Col w0 Y ts v2 wr ∧ ∀ g, v1.ownBlock = some g → v2.ownBlock ≠ some g
theorem Cols.swap {w0 wr : World} {X Y : List (List Int)} {us ts : List Value} {v1 v2 : Value} (h : Cols w0 X Y us ts v1 v2 wr) : Cols w0 Y X ts us v2 v1 wr := ⟨h.2.1, h.1, fun g h1 h2 => h.2.2 g h2 h1⟩
theorem Cols.grow {w0 wr w' : World} {X Y : List (List Int)} {us ts : List Value} {v1 v2 : Value} (h : Cols w0 X Y us ts v1 v2 wr) (k : Below wr.heap.size wr w') : Cols w0 X Y us ts v1 v2 w' := ⟨h.1.grow k, h.2.1.grow k, h.2.2⟩
theorem Cols.push {w0 wr : World} {X Y : List (List Int)} {us ts : List Value} {v1 v2 : Value} (h : Cols w0 X Y us ts v1 v2 wr) {W w1 : World} (hW : Below wr.heap.size wr W) {g cap b : Nat} (hX : us.length < X.length) (hb : URow W b X[us.length])
    (h1 : w1.ownsRow w0.heap.size 26 1 (.slice (some ⟨g, 0, none⟩) (us.length + 1) cap) (us.length + 1) (us.flatMap vcf ++ [.slice (some ⟨b, 0, none⟩) X[us.length].length X[us.length].length])) (hg : W.grownBy w1 v1.ownBlock) (hat : v1.ownBlock = some g ∨ g = W.heap.size) :
    Cols w0 X Y (us ++ [.slice (some ⟨b, 0, none⟩) X[us.length].length X[us.length].length]) ts (.slice (some ⟨g, 0, none⟩) (us.length + 1) cap) v2 w1 ∧ ∀ x l, URow W x l → URow w1 x l := by
  have hp := h.1.own.push hW (x := .slice (some ⟨b, 0, none⟩) X[us.length].length X[us.length].length) rfl h1 hg
  have hc := h.grow hW
  have hu : ∀ x l, URow W x l → URow w1 x l := fun x l hx => by
    obtain ⟨f, q1, q2⟩ := hx
    exact ⟨f, q1.of_block (hg.block x q1.lt (fun e => rows_own_ne q1 hc.1.own.1 (by decide) e.symm rfl)), q2⟩
  refine ⟨⟨⟨hp, fun i hi hXi => ?_⟩, ⟨⟨owns_kept hc.2.1.own.1 (fun x hx => hg.block x (owns_lt hc.2.1.own.1 hx) (fun e => h.2.2 x e.symm hx)), hp.2⟩, fun i hi hYi => ?_⟩, fun x hx hx2 => ?_⟩, hu⟩
  · by_cases e : i < us.length
    · obtain ⟨b', a1, a2⟩ := hc.1.each i e hXi
      exact ⟨b', by rw [List.getElem_append_left e]; exact a1, hu _ _ a2⟩
    · obtain rfl : i = us.length := by simp at hi; omega
      exact ⟨b, by simp, hu _ _ hb⟩
  · obtain ⟨b', a1, a2⟩ := hc.2.1.each i hi hYi
    exact ⟨b', a1, hu _ _ a2⟩
  · have hgx : g = x := by cases hx; rfl
    subst hgx
    rcases hat with q | q
    · exact h.2.2 g q hx2
    · have := owns_lt hc.2.1.own.1 hx2; omega
theorem Col.rows {w0 w : World} {X : List (List Int)} {us : List Value} {v : Value} (h : Col w0 X us v w) (hl : us.length = X.length) : ∃ a c, v = .slice a X.length c ∧ RowsAt .u32 (· < w.heap.size) w a X := by
  rcases h.own.form vcf_len with ⟨rfl, rfl⟩ | ⟨g, cap, rfl, _, h2, h3⟩
  · exact ⟨none, 0, by rw [← hl]; rfl, fun h => by rw [← hl] at h; simp at h⟩
  · refine ⟨_, cap, by rw [hl], fun _ => ⟨g, 0, rfl, h2, fun i hi => ?_⟩⟩
    obtain ⟨b, a1, a2⟩ := h.each i (by omega) hi
    refine ⟨some ⟨b, 0, none⟩, X[i].length, ?_, a2.ints⟩
    · have := h3 i (by omega) 0 _ rfl
      rw [Nat.zero_add]
      rw [a1] at this
      simpa using this
/-- The two rows of one block being filled. -/
def SI (x y : List Int) (wr : World) (m : Nat) (wi : World) : Prop :=
  Below wr.heap.size wr wi ∧ (∃ f, wi.rowIs wr.heap.size 31 x.length f ∧ ∀ j (h : j < x.length), j < m → f j = .int .u32 x[j]) ∧ ∃ f, wi.rowIs (wr.heap.size + 1) 31 y.length f ∧ ∀ j (h : j < y.length), j < m → f j = .int .u32 y[j]
theorem si_start {x y : List Int} (wr : World) {n : Nat} (hx : x.length = n) (hy : y.length = n) : SI x y wr 0 ((wr.alloc (.cells (madeCells #[.int .u32 0] n) 31)).alloc (.cells (madeCells #[.int .u32 0] n) 31)) := by
  refine ⟨((Below.refl _ _).alloc (Nat.le_refl _) _).alloc (by simp) _, ⟨fun i => #[Value.int .u32 0][i % 1]!, ?_, fun j _ h => absurd h (Nat.not_lt_zero _)⟩, fun i => #[Value.int .u32 0][i % 1]!, ?_, fun j _ h => absurd h (Nat.not_lt_zero _)⟩
  · rw [hx]
    exact World.rowIs.alloc (rowIs_made wr #[.int .u32 0] n 31) _
  · rw [hy]
    have := rowIs_made (wr.alloc (.cells (madeCells #[.int .u32 0] n) 31)) #[.int .u32 0] n 31
    simpa using this
theorem SI.step {x y : List Int} {wr wi : World} {m : Nat} (h : SI x y wr m wi) (hx : m < x.length) (hy : m < y.length) : SI x y wr (m + 1) ((wi.setCell ⟨wr.heap.size, m, none⟩ (.int .u32 x[m])).setCell ⟨wr.heap.size + 1, m, none⟩ (.int .u32 y[m])) := by
  obtain ⟨h1, ⟨f, h2, h3⟩, f', h4, h5⟩ := h
  refine ⟨(h1.setCell (p := ⟨wr.heap.size, m, none⟩) (by simp) _).setCell (p := ⟨wr.heap.size + 1, m, none⟩) (by simp) _, ⟨_, World.rowIs.of_block (h2.set m (.int .u32 x[m])) (Below.heap_setCell _ ⟨wr.heap.size + 1, m, none⟩ _ wr.heap.size (by simp)), fun j hj hjm => ?_⟩, _, (World.rowIs.of_block h4 (Below.heap_setCell _ ⟨wr.heap.size, m, none⟩ _ (wr.heap.size + 1) (by simp))).set m (.int .u32 y[m]), fun j hj hjm => ?_⟩
  · by_cases e : j = m
    · subst e; rw [if_pos rfl]
    · rw [if_neg e]; exact h3 j hj (by omega)
  · by_cases e : j = m
    · subst e; rw [if_pos rfl]
    · rw [if_neg e]; exact h5 j hj (by omega)
theorem SI.rows {x y : List Int} {wr wi : World} {m : Nat} (h : SI x y wr m wi) (hx : x.length ≤ m) (hy : y.length ≤ m) : URow wi wr.heap.size x ∧ URow wi (wr.heap.size + 1) y := by
  obtain ⟨h1, ⟨f, h2, h3⟩, f', h4, h5⟩ := h
  exact ⟨⟨f, h2, fun j hj => h3 j hj (by omega)⟩, ⟨f', h4, fun j hj => h5 j hj (by omega)⟩⟩
def fstC (B : List (List (Int × Int))) : List (List Int) := B.map fun l => l.map fun p => p.1
def sndC (B : List (List (Int × Int))) : List (List Int) := B.map fun l => l.map fun p => p.2
theorem fstC_len (B : List (List (Int × Int))) : (fstC B).length = B.length := by simp [fstC]
theorem sndC_len (B : List (List (Int × Int))) : (sndC B).length = B.length := by simp [sndC]
theorem fstC_at (B : List (List (Int × Int))) (i : Nat) (h : i < (fstC B).length) : (fstC B)[i] = (B[i]'(by rwa [fstC_len] at h)).map fun p => p.1 := by simp [fstC]
theorem sndC_at (B : List (List (Int × Int))) (i : Nat) (h : i < (sndC B).length) : (sndC B)[i] = (B[i]'(by rwa [sndC_len] at h)).map fun p => p.2 := by simp [sndC]
def statePost (B : List (List (Int × Int))) (hd : Int) (sp : Nat) (w : World) (e : Ending) (w' : World) : Prop :=
  ∃ a1 c1 a2 c2, e = .returned (.tuple #[.slice a1 (fstC B).length c1, .slice a2 (sndC B).length c2, .int .i64 hd, .int .i64 (sp : Nat)]) ∧ RowsAt .u32 (· < w'.heap.size) w' a1 (fstC B) ∧ RowsAt .u32 (· < w'.heap.size) w' a2 (sndC B) ∧ Below w.heap.size w w'
def StR (w : World) (B : List (List (Int × Int))) (k : Nat) (v1 v2 : Value) (wr : World) : Prop := ∃ us ts, us.length = k ∧ ts.length = k ∧ Cols w (fstC B) (sndC B) us ts v1 v2 wr

set_option maxHeartbeats 1000000 in
set_option maxRecDepth 20000 in
theorem state12 {B0 : Nat} {w0 w : World} {qb : Nat} {B : List (List (Int × Int))} {hd : Int} {sp : Nat} (h : QEx B0 w0 w qb B hd sp) (hn : B.length ≤ 4096) (hr : ∀ i (h : i < B.length), B[i].length ≤ 4096) :
    Calls Try.prog 12 #[.pointer (some ⟨qb, 0, none⟩)] w (statePost B hd sp w) := by
  obtain ⟨a, cap, sa, sc, hQ⟩ := h
  have HQ := hide hQ
  have HR := hide hr
  have hql := hQ.row.lt
  have k0 : w.cell? ⟨qb, 0, none⟩ = some (.slice a B.length cap) := hQ.row.cell (show 0 < 3 by omega)
  have k1 : w.cell? ⟨qb, 1, none⟩ = some (.int .i64 hd) := hQ.row.cell (show 1 < 3 by omega)
  have k2 : w.cell? ⟨qb, 2, none⟩ = some (.slice sa sp sc) := hQ.row.cell (show 2 < 3 by omega)
  obtain ⟨n, hnn⟩ : ∃ n, n = B.length := ⟨_, rfl⟩
  rw [← hnn] at hn k0
  have HN := hide hnn
  clear hQ hr hnn
  go_enter Try.func12, Try.ntmps12
  go_wp2
  go_loopw [2, 3, 6] (fun v1 v2 i wr => ∃ k : Nat, k ≤ n ∧ i = .int .i64 k ∧ StR w B k v1 v2 wr) (fun _ _ i _ => n - (intOf i).toNat)
  case atStart => exact ⟨0, Nat.zero_le _, rfl, [], [], rfl, rfl, ⟨GRel.nil _ _ _ _, fun i h => absurd h (by simp)⟩, ⟨GRel.nil _ _ _ _, fun i h => absurd h (by simp)⟩, fun g hg => by cases hg⟩
  case round =>
    rename World => wr
    obtain ⟨k, hk, rfl, us, ts, hus, hts, hC⟩ := hrel
    have HC := hide hC
    have HB := hide hC.1.own.2
    have hwr := hC.1.own.2.size
    obtain ⟨va, vc, hv1⟩ := hC.1.own.val
    obtain ⟨vb, vd, hv2⟩ := hC.2.1.own.val
    subst hv1 hv2
    have f0 := (HB.out.cell (p := ⟨qb, 0, none⟩) hql).trans k0
    have f1 := (HB.out.cell (p := ⟨qb, 1, none⟩) hql).trans k1
    have f2 := (HB.out.cell (p := ⟨qb, 2, none⟩) hql).trans k2
    clear hC
    by_cases hlt : k < n
    · have hkB : k < B.length := by rw [← HN.out]; exact hlt
      obtain ⟨g, o, N, f, rfl, e2, e3, e4, e5⟩ := HQ.out.blks (by omega)
      have hgl := e2.lt
      obtain ⟨b, c, q1, q2, _⟩ := e5 k hkB
      have p1 := e2.cell (show o + k < N by omega)
      rw [q1] at p1
      have f3 := (HB.out.cell (p := ⟨g, o + k, none⟩) hgl).trans p1
      have hbl := q2.1
      have HBk := hide q2.2
      have hrk := HR.out k hkB
      have hX : us.length < (fstC B).length := by rw [hus, fstC_len]; exact hkB
      have hY : ts.length < (sndC B).length := by rw [hts, sndC_len]; exact hkB
      have HP1 := hide (fun (W w1 : World) (g cap b : Nat) (hW : Below wr.heap.size wr W) hb h1 hg hat => HC.out.push (W := W) (w1 := w1) hW (g := g) (cap := cap) (b := b) hX hb h1 hg hat)
      have ex : (fstC B)[us.length] = B[k].map fun p => p.1 := by rw [fstC_at]; simp only [hus]
      have ey : (sndC B)[ts.length] = B[k].map fun p => p.2 := by rw [sndC_at]; simp only [hts]
      have HP2 := hide (fun (wr : World) (us : List Value) (v1 : Value) (hC : Cols w (fstC B) (sndC B) us ts v1 (.slice vb ts.length vd) wr) (W w1 : World) (g cap b : Nat) (hW : Below wr.heap.size wr W) hb h1 hg hat => hC.swap.push (W := W) (w1 := w1) hW (g := g) (cap := cap) (b := b) hY hb h1 hg hat)
      rw [ex] at HP1
      rw [ey] at HP2
      obtain ⟨l, hl⟩ : ∃ l, l = B[k] := ⟨_, rfl⟩
      rw [← hl] at f3 HBk hrk HP1 HP2
      have elx : (l.map fun p => p.1).length = l.length := List.length_map _
      have ely : (l.map fun p => p.2).length = l.length := List.length_map _
      rw [elx] at HP1
      rw [ely] at HP2
      obtain ⟨nl, hnl⟩ : ∃ nl, nl = l.length := ⟨_, rfl⟩
      rw [← hnl] at f3 hrk HP1 HP2
      have HNl := hide hnl
      have hmk := fun w => run_make_rows (P := Try.prog) 26 31 #[.int .u32 0] 1 4 Try.underlying26 (.int .u32 0) rfl info31 .i64 .i64 nl (by omega) (by omega) w
      have hki : (k : Int) < (n : Int) := by omega
      have hk0 : (0 : Int) ≤ (k : Int) := by omega
      have lg : g < wr.heap.size := by omega
      have lb : b < wr.heap.size := by omega
      have lq : qb < wr.heap.size := by omega
      have HUs := hide hus
      have HTs := hide hts
      have hul : us.length ≤ 4096 := by omega
      have htl : ts.length ≤ 4096 := by omega
      clear e2 e3 e5 q1 q2 p1 hX hY ex ey hl hnl elx ely hus hts
      obtain ⟨n1, hn1⟩ : ∃ n1, n1 = us.length := ⟨_, rfl⟩
      obtain ⟨n2, hn2⟩ : ∃ n2, n2 = ts.length := ⟨_, rfl⟩
      rw [← hn1] at hul
      rw [← hn2] at htl
      rw [← hn1, ← hn2]
      have HN1 := hide hn1
      have HN2 := hide hn2
      clear hn1 hn2
      go_wp2
      go_loopw [10] (fun i wi => ∃ m : Nat, m ≤ nl ∧ i = .int .i64 m ∧ SI (l.map fun p => p.1) (l.map fun p => p.2) wr m wi) (fun i _ => nl - (intOf i).toNat)
      case atStart => exact ⟨0, Nat.zero_le _, rfl, by simpa using si_start wr (by rw [List.length_map]; exact HNl.out.symm) (by rw [List.length_map]; exact HNl.out.symm)⟩
      case round =>
        rename World => wi
        obtain ⟨m, hm, rfl, hI⟩ := hrel
        have HI := hide hI
        obtain ⟨hBi, ⟨fx, hfx, _⟩, fy, hfy, _⟩ := hI
        rw [List.length_map, ← HNl.out] at hfx hfy
        have hwi := hBi.size
        have hil := hfy.lt
        by_cases hml : m < nl
        · have hmL : m < l.length := by rw [← HNl.out]; exact hml
          obtain ⟨y1, y2⟩ := HBk.out m hmL
          have y1 := (hBi.cell (p := ⟨b, m * 2, none⟩) lb).trans ((HB.out.cell (p := ⟨b, m * 2, none⟩) hbl).trans y1)
          have y2 := (hBi.cell (p := ⟨b, m * 2 + 1, none⟩) lb).trans ((HB.out.cell (p := ⟨b, m * 2 + 1, none⟩) hbl).trans y2)
          have u0 := hfx.cell (show m < nl by omega)
          have u1 := hfy.cell (show m < nl by omega)
          have z0 := hfx.frozen m
          have z1 := hfy.frozen m
          have HNx := hide (HI.out.step (by simpa using hmL) (by simpa using hmL))
          simp only [List.getElem_map] at HNx
          generalize l[m] = x at y1 y2 HNx
          generalize fx m = v0 at u0
          generalize fy m = v1 at u1
          have hmi : (m : Int) < (nl : Int) := by omega
          have hm0 : (0 : Int) ≤ (m : Int) := by omega
          have n3 : b ≠ wr.heap.size := by omega
          have n4 : b ≠ wr.heap.size + 1 := by omega
          clear hBi hfx hfy f0 f1 f2 f3
          go_wp2
          go_roundw
          case rel => exact ⟨m + 1, by omega, by go_num, HNx.out⟩
          case measure => simp [intOf]; omega
        · obtain rfl : m = nl := by omega
          obtain ⟨hu1, hu2⟩ := HI.out.rows (by rw [List.length_map, ← HNl.out]; exact Nat.le_refl _) (by rw [List.length_map, ← HNl.out]; exact Nat.le_refl _)
          have HU1 := hide hu1
          have HU2 := hide hu2
          have HBi := hide hBi
          obtain ⟨i0, hi, hz0, hz1, hz2⟩ := info_parts info26
          have HOw1 : Hid (wi.ownsRow w.heap.size 26 1 (.slice va n1 vc) n1 (us.flatMap vcf)) := by
            have := (HC.out.grow hBi).1.own.1
            rw [← HN1.out] at this
            exact this
          have hgl2 : w.heap.size ≤ wi.heap.size := by omega
          clear hBi hfx hfy hu1 hu2 f0 f1 f2 f3
          go_upto_region 13 with (at_builtin; refine wpList_append_lies _ rfl _ _ 22 rfl w.heap.size 26 i0 (.slice none 0 0) 1 24 Try.underlying22 hi hz0 hz1 hz2 rfl (by decide) (.slice va n1 vc) n1 (us.flatMap vcf) rfl (by exact World.ownsRow.alloc HOw1.out _) ⟨wi.heap.size, 0, none⟩ 1 1 [.slice (some ⟨wr.heap.size, 0, none⟩) m m] rfl rfl (by exact cell_one_new _ _ _) (by simp [Value.oneCell']) (by omega) (by unfold maxLen; omega) (by omega) (by simp; omega) (wi.heap.size + 1) (by simp) ?_; intro g3 cap3 w1 hown1 hgrow1 hat1 hlt1; have HY := hide (And.intro hown1 (And.intro hgrow1 hat1)); clear hown1 hgrow1 hat1 hlt1)
          obtain ⟨z1, z2, z3⟩ := HY.out
          have hbW : Below wr.heap.size wr (wi.alloc (.cells #[.slice (some ⟨wr.heap.size, 0, none⟩) m m] 26)) := HBi.out.alloc hwi _
          rw [HN1.out] at z1 z2 z3
          obtain ⟨hC1, hu⟩ := HP1.out _ w1 g3 cap3 wr.heap.size hbW (HU1.out.kept ((MapKept.heap_alloc wi _).2 _ HU1.out.lt)) z1 z2 (by simpa using z3)
          have hU2 := hu _ _ (HU2.out.kept ((MapKept.heap_alloc wi _).2 _ HU2.out.lt))
          have HU2' := hide hU2
          have HC1 := hide hC1
          have hw1 := hC1.1.own.2.size
          have HOw2 : Hid (w1.ownsRow w.heap.size 26 1 (.slice vb n2 vd) n2 (ts.flatMap vcf)) := by
            have := hC1.2.1.own.1
            rw [← HN2.out] at this
            exact this
          clear z1 z2 z3 hbW hC1 hu hU2 HY HOw1
          go_wp2_with (at_builtin; refine wpList_append_lies _ rfl _ _ 22 rfl w.heap.size 26 i0 (.slice none 0 0) 1 24 Try.underlying22 hi hz0 hz1 hz2 rfl (by decide) (.slice vb n2 vd) n2 (ts.flatMap vcf) rfl (by exact World.ownsRow.alloc HOw2.out _) ⟨w1.heap.size, 0, none⟩ 1 1 [.slice (some ⟨wr.heap.size + 1, 0, none⟩) m m] rfl rfl (by exact cell_one_new _ _ _) (by simp [Value.oneCell']) (by omega) (by unfold maxLen; omega) (by omega) (by simp; omega) (w1.heap.size + 1) (by simp) ?_; intro g4 cap4 w2 hown2 hgrow2 hat2 hlt2; have HY := hide (And.intro hown2 (And.intro hgrow2 hat2)); clear hown2 hgrow2 hat2 hlt2)
          go_roundw
          case rel =>
            obtain ⟨z1, z2, z3⟩ := HY.out
            rw [HN2.out] at z1 z2 z3 ⊢
            rw [HN1.out]
            obtain ⟨hC2, _⟩ := HP2.out w1 _ _ HC1.out _ w2 g4 cap4 (wr.heap.size + 1) ((Below.refl _ _).alloc (Nat.le_refl _) _) (HU2'.out.kept ((MapKept.heap_alloc w1 _).2 _ HU2'.out.lt)) z1 z2 (by simpa using z3)
            exact ⟨k + 1, by omega, by go_num, _, _, by rw [List.length_append, HUs.out]; rfl, by rw [List.length_append, HTs.out]; rfl, hC2.swap⟩
          case measure => simp [intOf]; omega
    · have hkn : k = n := by omega
      obtain ⟨a1, c1, e1, h1⟩ := HC.out.1.rows (by rw [hus, fstC_len, hkn, HN.out])
      obtain ⟨a2, c2, e2, h2⟩ := HC.out.2.1.rows (by rw [hts, sndC_len, hkn, HN.out])
      rw [e1, e2]
      have HR1 := hide h1
      have HR2 := hide h2
      clear h1 h2 e1 e2 hkn
      go_wp2
      go_quiet (fail)
      go_wp2
      have hb := below_drewN (Below.refl wr.heap.size wr) nq
      refine bodyPost_ret (v := .tuple #[.slice a1 (fstC B).length c1, .slice a2 (sndC B).length c2, .int .i64 hd, .int .i64 (sp : Nat)]) (by simp [results, Try.results12, go_sem]) rfl ⟨a1, c1, a2, c2, rfl, HR1.out.grow hb, HR2.out.grow hb, HB.out.trans (hb.mono hwr)⟩
end Go.Proofs.Qxb6603480a
