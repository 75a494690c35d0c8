import Derived.Test.Qxb6603366aW1
namespace Go.Proofs.Qxb6603366a
open Go.RowKit

/-- no dot at places below k -/
def noDot (s : ByteArray) (k : Nat) : Prop := ∀ i (h : i < s.size), i < k → s[i].toNat ≠ 46

def hasDotPost (s : ByteArray) (w : World) (e : Ending) (w' : World) : Prop :=
  (∃ r, e = .returned (.bool r) ∧ (r = false → noDot s s.size)) ∧ w' = w

set_option maxHeartbeats 400000 in
theorem hasDot_any (s : ByteArray) (w : World) (hs : s.size ≤ 65536) :
    Calls Try.prog 6 #[.string s] w (hasDotPost s w) := by
  go_enter Try.func6, Try.ntmps6
  go_wp2
  go_loop [3] (fun i => ∃ k : Nat, k ≤ s.size ∧ i = .int .i64 k ∧ noDot s k) (fun i => s.size - (intOf i).toNat)
  case atStart => exact ⟨0, Nat.zero_le _, rfl, fun i h h0 => absurd h0 (Nat.not_lt_zero _)⟩
  case round =>
    obtain ⟨k, hk, rfl, hn⟩ := hrel
    have HN : Hid (noDot s k) := hn
    clear hn
    by_cases hlt : k < s.size
    · go_wp2
      · go_ret
        exact ⟨⟨true, rfl, by simp⟩, rfl⟩
      · go_round
        case rel =>
          rename_i h1
          refine ⟨k + 1, by omega, by go_num, ?_⟩
          intro i hi hik
          by_cases e : i = k
          · subst e; simp at h1; omega
          · exact HN.out i hi (by omega)
        case measure => simp [intOf]; omega
    · go_wp2
      go_ret
      refine ⟨⟨false, rfl, fun _ => ?_⟩, rfl⟩
      obtain rfl : k = s.size := by omega
      exact HN.out

def lastDotPost (s : ByteArray) (w : World) (e : Ending) (w' : World) : Prop :=
  ((e = .returned (.int .i64 (-1)) ∧ noDot s s.size) ∨ (∃ k : Nat, ∃ h : k < s.size, e = .returned (.int .i64 k) ∧ s[k].toNat = 46 ∧ ∀ i (h : i < s.size), k < i → s[i].toNat ≠ 46)) ∧ w' = w

set_option maxHeartbeats 400000 in
theorem lastDot_any (s : ByteArray) (w : World) (hs : s.size ≤ 1000000) :
    Calls Try.prog 8 #[.string s] w (lastDotPost s w) := by
  go_enter Try.func8, Try.ntmps8
  go_wp2
  go_loop [3] (fun i => ∃ k : Nat, k ≤ s.size ∧ i = .int .i64 ((k : Int) - 1) ∧ ∀ i (h : i < s.size), k ≤ i → s[i].toNat ≠ 46) (fun i => (intOf i + 1).toNat)
  case atStart => exact ⟨s.size, Nat.le_refl _, rfl, fun i h h0 => absurd h (by omega)⟩
  case round =>
    obtain ⟨k, hk, rfl, hn⟩ := hrel
    have HN : Hid (∀ i (h : i < s.size), k ≤ i → s[i].toNat ≠ 46) := hn
    clear hn
    by_cases hlt : 0 < k
    · obtain ⟨j, rfl⟩ : ∃ j, k = j + 1 := ⟨k - 1, by omega⟩
      have hj : ((j + 1 : Nat) : Int) - 1 = (j : Int) := by omega
      rw [hj]
      clear hj
      go_wp2
      · go_ret
        rename_i h1
        refine ⟨.inr ⟨j, by omega, rfl, ?_, HN.out⟩, rfl⟩
        simp at h1
        omega
      · go_round
        case rel =>
          rename_i h1
          refine ⟨j, by omega, by go_num, ?_⟩
          intro i hi hik
          by_cases e : i = j
          · subst e; simp at h1; omega
          · exact HN.out i hi (by omega)
        case measure => simp [intOf]
    · obtain rfl : k = 0 := by omega
      go_wp2
      go_ret
      exact ⟨.inl ⟨rfl, fun i h _ => HN.out i h (Nat.zero_le _)⟩, rfl⟩
end Go.Proofs.Qxb6603366a
