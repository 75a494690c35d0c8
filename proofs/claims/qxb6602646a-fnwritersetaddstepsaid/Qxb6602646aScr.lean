/-
  The small walks around the writer set.
-/
import Derived.Test.Qxb6602646aScrLaw
import Derived.Deep.RegionWith
namespace Go.Proofs.Qxb6602646a
open Go.RowKit

def endPost (R : World → Prop) (e : Ending) (w' : World) : Prop := e = .returned (.tuple #[]) ∧ R w'
set_option maxHeartbeats 400000 in
/-- ZZAdd. -/
theorem add32 {wb : Nat} {t : Int} {w : World} {R : World → Prop} (h : Calls Try.prog 53 #[.pointer (some ⟨wb, 0, none⟩), .int .i64 t] w (endPost R)) :
    Calls Try.prog 32 #[.pointer (some ⟨wb, 0, none⟩), .int .i64 t] w (endPost R) := by
  have HC := hide (fun w' (e : w' = w) => e ▸ h)
  clear h
  go_enter Try.func32, Try.ntmps32
  go_wp2_with (go_at_call 53; refine (HC.out _ rfl).mono ?_; rintro e w' ⟨rfl, h1⟩)
  go_end0
  exact ⟨rfl, by assumption⟩
def intPost (x : Int) (w : World) (e : Ending) (w' : World) : Prop := e = .returned (.int .i64 x) ∧ w' = w
set_option maxHeartbeats 400000 in
/-- ZZRound. -/
theorem round33 {wb : Nat} {r : Int} {w : World} (h : w.cell? ⟨wb, 1, none⟩ = some (.int .i64 r)) : Calls Try.prog 33 #[.pointer (some ⟨wb, 0, none⟩)] w (intPost r w) := by
  go_enter Try.func33, Try.ntmps33
  go_wp2
  go_ret
  exact ⟨rfl, rfl⟩
set_option maxHeartbeats 400000 in
/-- ZZSetRound. -/
theorem setRound43 {wb : Nat} {r r0 : Int} {w : World} (h : w.cell? ⟨wb, 1, none⟩ = some (.int .i64 r0)) (hz : w.frozen? ⟨wb, 1, none⟩ = false) :
    Calls Try.prog 43 #[.pointer (some ⟨wb, 0, none⟩), .int .i64 r] w (endPost fun w' => w' = w.setCell ⟨wb, 1, none⟩ (.int .i64 r)) := by
  go_enter Try.func43, Try.ntmps43
  go_wp2
  go_end0
  exact ⟨rfl, rfl⟩

def wrPost (rnd : Int) (q : Option (Int × List Int)) (w : World) (e : Ending) (w' : World) : Prop :=
  ∃ v, e = .returned v ∧ IOwn w' v (wOf rnd q) ∧ Below w.heap.size w w'
theorem kw_lookup {Fp : Nat → Prop} {w : World} {wb mb : Nat} {hp av : Value} {rnd : Int} {al : List Int} {recs : List (Int × CRec)} (h : WsAt Fp w wb hp rnd av al mb recs) (k : Int) :
    (lk (ptrs recs) k = none ∧ lkG (absR recs) k = none) ∨ ∃ R, lk (ptrs recs) k = some (.pointer (some ⟨R.kb, 0, none⟩)) ∧ lkG (absR recs) k = some (R.rnd, R.tx) ∧ RecAt w R := by
  cases hl : lk (ptrs recs) k with
  | none => exact .inl ⟨rfl, absR_lk_none (ptrs_none hl)⟩
  | some v =>
    obtain ⟨l1, R, l2, rfl, h2, h3⟩ := ptrs_split hl
    exact .inr ⟨R, by rw [h2], absR_lk h3, h.each (k, R) (by simp)⟩
set_option maxHeartbeats 400000 in
set_option maxRecDepth 20000 in
/-- writers. -/
theorem writers54 {Fp : Nat → Prop} {w : World} {wb mb : Nat} {hp av : Value} {rnd : Int} {al : List Int} {recs : List (Int × CRec)} (h : WsAt Fp w wb hp rnd av al mb recs) (k : Int) :
    Calls Try.prog 54 #[.pointer (some ⟨wb, 0, none⟩), .int .i64 k] w (wrPost rnd (lkG (absR recs) k) w) := by
  have c1 : w.cell? ⟨wb, 1, none⟩ = some (.int .i64 rnd) := h.row.cell (show 1 < 4 by omega)
  have c3 : w.cell? ⟨wb, 3, none⟩ = some (.map (some mb)) := h.row.cell (show 3 < 4 by omega)
  have HM := hide h.map
  rcases kw_lookup h k with ⟨e1, e2⟩ | ⟨R, e1, e2, hR⟩
  · rw [e2]
    have hv : (lk (ptrs recs) k).getD (.pointer none) = .pointer none := by rw [e1]; rfl
    clear h e1 e2
    go_enter Try.func54, Try.ntmps54
    go_wp2_with (at_lookup; refine wpList_lookup_one rfl _ _ 105 2 106 rfl (int_enc Try.underlying2) Try.underlying105 HM.out (.pointer none) (by kernel_rfl) k rfl rfl _ hv ?_)
    go_quiet (fail)
    go_wp2
    go_ret
    exact ⟨_, rfl, IOwn.nil _, below_drewN (Below.refl _ _) _⟩
  · rw [e2]
    have hv : (lk (ptrs recs) k).getD (.pointer none) = .pointer (some ⟨R.kb, 0, none⟩) := by rw [e1]; rfl
    have k0 : w.cell? ⟨R.kb, 0, none⟩ = some (.int .i64 R.rnd) := hR.1.cell (show 0 < 2 by omega)
    have k1 : w.cell? ⟨R.kb, 1, none⟩ = some R.tv := hR.1.cell (show 1 < 2 by omega)
    have HO := hide hR.2
    clear h e1 e2 hR
    by_cases hr : R.rnd = rnd
    · have hd : (R.rnd != rnd) = false := by simp [hr]
      have HR := hide hr
      clear hr
      go_enter Try.func54, Try.ntmps54
      go_wp2_with (at_lookup; refine wpList_lookup_one rfl _ _ 105 2 106 rfl (int_enc Try.underlying2) Try.underlying105 HM.out (.pointer none) (by kernel_rfl) k rfl rfl _ hv ?_)
      go_quiet (fail)
      go_wp2
      go_ret
      refine ⟨_, rfl, ?_, below_drewN (Below.refl _ _) _⟩
      have : wOf rnd (some (R.rnd, R.tx)) = R.tx := by simp [wOf, HR.out]
      rw [this]
      exact HO.out
    · have hd : (R.rnd != rnd) = true := by simp [hr]
      have HR := hide hr
      clear hr
      go_enter Try.func54, Try.ntmps54
      go_wp2_with (at_lookup; refine wpList_lookup_one rfl _ _ 105 2 106 rfl (int_enc Try.underlying2) Try.underlying105 HM.out (.pointer none) (by kernel_rfl) k rfl rfl _ hv ?_)
      go_quiet (fail)
      go_wp2
      go_ret
      refine ⟨_, rfl, ?_, below_drewN (Below.refl _ _) _⟩
      have : wOf rnd (some (R.rnd, R.tx)) = [] := by simp [wOf, HR.out]
      rw [this]
      exact IOwn.nil _
set_option maxHeartbeats 400000 in
/-- ZZWriters. -/
theorem writers44 {Fp : Nat → Prop} {w : World} {wb mb : Nat} {hp av : Value} {rnd : Int} {al : List Int} {recs : List (Int × CRec)} (h : WsAt Fp w wb hp rnd av al mb recs) (k : Int) :
    Calls Try.prog 44 #[.pointer (some ⟨wb, 0, none⟩), .int .i64 k] w (wrPost rnd (lkG (absR recs) k) w) := by
  have HC := hide (fun w' (e : w' = w) => e ▸ writers54 h k)
  clear h
  go_enter Try.func44, Try.ntmps44
  go_wp2_with (go_at_call 54; refine (HC.out _ rfl).mono ?_; rintro e w' ⟨v, rfl, h1, h2⟩)
  go_ret
  exact ⟨_, rfl, by assumption, by assumption⟩
end Go.Proofs.Qxb6602646a
