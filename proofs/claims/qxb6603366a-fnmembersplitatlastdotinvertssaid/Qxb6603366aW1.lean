import Derived.Test.Qxb6603366aRows
import Derived.WalkKit
import Derived.WalkSpells
import Derived.WalkLawsBesides
namespace Go.Proofs.Qxb6603366a
open Go.RowKit

set_option maxHeartbeats 400000 in
theorem bytes_any (a b : ByteArray) (ha : a.size ≤ maxLen) (hb : b.size ≤ maxLen) (w : World) :
    Calls Try.prog 5 #[.string a, .string b] w fun e w' => (∃ r, e = .returned (.bool r)) ∧ w' = w := by
  unfold maxLen at ha hb
  go_enter Try.func5, Try.ntmps5
  go_wp2
  all_goals (go_ret; exact ⟨⟨_, rfl⟩, rfl⟩)

set_option maxHeartbeats 400000 in
theorem member_nil (k : ByteArray) (w : World) (p : ByteArray) (hp : p.toList.isEmpty = true) :
    Calls Try.prog 10 #[.string p, .string k] w fun e w' => e = .returned (.string k) ∧ w' = w := by
  go_enter Try.func10, Try.ntmps10
  go_wp2
  all_goals (go_ret; exact ⟨rfl, rfl⟩)

set_option maxHeartbeats 400000 in
theorem member_cons (k : ByteArray) (w : World) (p : ByteArray) (hp : p.toList.isEmpty = false) (hs : p.size ≤ 65536) (hk : k.size ≤ 65536) :
    Calls Try.prog 10 #[.string p, .string k] w fun e w' => e = .returned (.string (p ++ ⟨#[46]⟩ ++ k)) ∧ w' = w := by
  go_enter Try.func10, Try.ntmps10
  go_wp2
  all_goals (go_ret; exact ⟨rfl, rfl⟩)
end Go.Proofs.Qxb6603366a
