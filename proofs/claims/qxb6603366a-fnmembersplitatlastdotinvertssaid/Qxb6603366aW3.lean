import Derived.Test.Qxb6603366aW2
namespace Go.Proofs.Qxb6603366a
open Go.RowKit

theorem cut_data (s : ByteArray) (a b : Nat) : (s.extract a b).data.toList = (s.data.toList.drop a).take (b - a) := by
  simp [ByteArray.data_extract, Array.toList_extract, List.extract_eq_take_drop]

def dotB : ByteArray := ⟨#[46]⟩

theorem size_join (p k : ByteArray) : (p ++ dotB ++ k).size = p.size + 1 + k.size := by
  simp [ByteArray.size_append]; rfl

theorem join_toList (p k : ByteArray) : (p ++ dotB ++ k).data.toList = p.data.toList ++ 46 :: k.data.toList := by
  simp [ByteArray.data_append, dotB]

theorem at_data (a : ByteArray) (i : Nat) (h : i < a.size) : some a[i] = a.data.toList[i]? := by
  have : a.data[i]? = some a[i] := by
    rw [Array.getElem?_eq_getElem (by exact h)]; rfl
  rw [← this]; simp

theorem join_dot (p k : ByteArray) (h : p.size < (p ++ dotB ++ k).size) : (p ++ dotB ++ k)[p.size].toNat = 46 := by
  have e := at_data _ _ h
  rw [join_toList, List.getElem?_append_right (by simp)] at e
  simp at e
  rw [e]; rfl

theorem join_key (p k : ByteArray) (hk : noDot k k.size) (i : Nat) (h : i < (p ++ dotB ++ k).size) (hi : p.size < i) : (p ++ dotB ++ k)[i].toNat ≠ 46 := by
  have hs := size_join p k
  have e := at_data _ _ h
  obtain ⟨d, rfl⟩ : ∃ d, i = p.size + 1 + d := ⟨i - p.size - 1, by omega⟩
  rw [join_toList, List.getElem?_append_right (by simp; omega)] at e
  have e2 : p.size + 1 + d - p.data.toList.length = d + 1 := by simp; omega
  have hd : d < k.size := by omega
  rw [e2, List.getElem?_cons_succ, ← at_data k d hd] at e
  injection e with e
  rw [e]
  exact hk d hd hd

/-- The last dot of 'p.k', k without a dot, stands at p's end. -/
theorem lastDot_join (p k : ByteArray) (hk : noDot k k.size) (w : World) (hp1 : p.size ≤ 65536) (hk1 : k.size ≤ 65536) :
    Calls Try.prog 8 #[.string (p ++ dotB ++ k)] w fun e w' => e = .returned (.int .i64 p.size) ∧ w' = w := by
  have hs := size_join p k
  refine (lastDot_any _ w (by omega)).mono ?_
  rintro e w' ⟨⟨rfl, hn⟩ | ⟨j, hj, rfl, h1, h2⟩, rfl⟩
  · exact absurd (join_dot p k (by omega)) (hn _ _ (by omega))
  · refine ⟨?_, rfl⟩
    rcases Nat.lt_trichotomy j p.size with h | h | h
    · exact absurd (join_dot p k (by omega)) (h2 p.size (by omega) h)
    · rw [h]
    · exact absurd h1 (join_key p k hk j hj h)

theorem lastDot_none (k : ByteArray) (hk : noDot k k.size) (w : World) (hk1 : k.size ≤ 65536) :
    Calls Try.prog 8 #[.string k] w fun e w' => e = .returned (.int .i64 (-1)) ∧ w' = w := by
  refine (lastDot_any _ w (by omega)).mono ?_
  rintro e w' ⟨⟨rfl, hn⟩ | ⟨j, hj, rfl, h1, h2⟩, rfl⟩
  · exact ⟨rfl, rfl⟩
  · exact absurd h1 (hk j hj hj)

theorem cut_left (p k : ByteArray) : ((p ++ dotB ++ k).extract 0 p.size).toList = p.toList := by
  rw [ByteArray.toList_eq, ByteArray.toList_eq, cut_data, join_toList]
  simp
theorem cut_right (p k : ByteArray) : ((p ++ dotB ++ k).extract (p.size + 1) (p ++ dotB ++ k).size).toList = k.toList := by
  have hs := size_join p k
  rw [ByteArray.toList_eq, ByteArray.toList_eq, cut_data, join_toList, hs]
  have e : p.size + 1 - p.data.toList.length = 1 := by simp
  rw [List.drop_append, e, List.drop_of_length_le (by simp)]
  simp
  exact List.take_of_length_le (Nat.le_of_eq (by simp))

def mainPost (w : World) (e : Ending) (w' : World) : Prop := e = .returned (.bool true) ∧ w' = w

set_option maxHeartbeats 400000 in
theorem main_big (p k : ByteArray) (hp : p.size ≤ maxLen) (hk : k.size ≤ maxLen) (hbig : ¬ (p.size ≤ 65536 ∧ k.size ≤ 65536)) (w : World) :
    Calls Try.prog 3 #[.string p, .string k] w (mainPost w) := by
  by_cases h1 : (p.size : Int) ≤ 65536
  · have h2 : (65536 : Int) < k.size := by omega
    clear hbig
    go_enter Try.func3, Try.ntmps3
    go_wp2_with (go_at_call 5; refine (bytes_any p k hp hk _).mono ?_; rintro e w' ⟨⟨r, rfl⟩, rfl⟩)
    all_goals (go_ret; exact ⟨rfl, rfl⟩)
  · have h2 : (65536 : Int) < p.size := by omega
    clear hbig
    go_enter Try.func3, Try.ntmps3
    go_wp2_with (go_at_call 5; refine (bytes_any p k hp hk _).mono ?_; rintro e w' ⟨⟨r, rfl⟩, rfl⟩)
    all_goals (go_ret; exact ⟨rfl, rfl⟩)

set_option maxHeartbeats 400000 in
theorem main_dot (p k : ByteArray) (hp : p.size ≤ 65536) (hk : k.size ≤ 65536) (hd : ¬ noDot k k.size) (w : World) :
    Calls Try.prog 3 #[.string p, .string k] w (mainPost w) := by
  have h1 : (p.size : Int) ≤ 65536 := by omega
  have h2 : (k.size : Int) ≤ 65536 := by omega
  go_enter Try.func3, Try.ntmps3
  go_wp2_with (first | (go_at_call 5; refine (bytes_any p k (by unfold maxLen; omega) (by unfold maxLen; omega) _).mono ?_; rintro e w' ⟨⟨r, rfl⟩, rfl⟩) | (go_at_call 6; refine (hasDot_any k _ (by omega)).mono ?_; rintro e w' ⟨⟨r, rfl, hr⟩, rfl⟩; cases r; exact absurd (hr rfl) hd; clear hr))
  all_goals (go_ret; exact ⟨rfl, rfl⟩)

set_option maxHeartbeats 400000 in
theorem main_nil (p k : ByteArray) (hp : p.toList.isEmpty = true) (hps : p.size ≤ 65536) (hk : k.size ≤ 65536) (hd : noDot k k.size) (w : World) :
    Calls Try.prog 3 #[.string p, .string k] w (mainPost w) := by
  have h1 : (p.size : Int) ≤ 65536 := by omega
  have h2 : (k.size : Int) ≤ 65536 := by omega
  go_enter Try.func3, Try.ntmps3
  go_wp2_with (first | (go_at_call 5; refine (bytes_any p k (by unfold maxLen; omega) (by unfold maxLen; omega) _).mono ?_; rintro e w' ⟨⟨r, rfl⟩, rfl⟩) | (go_at_call 6; refine (hasDot_any k _ (by omega)).mono ?_; rintro e w' ⟨⟨r, rfl, hr⟩, rfl⟩; clear hr) | (go_at_call 10; refine (member_nil k _ p hp).mono ?_; rintro e w' ⟨rfl, rfl⟩) | (go_at_call 8; refine (lastDot_none k hd _ (by omega)).mono ?_; rintro e w' ⟨rfl, rfl⟩) | go_in)
  all_goals (go_ret; exact ⟨rfl, rfl⟩)

set_option maxHeartbeats 400000 in
theorem main_join (p k : ByteArray) (hp : p.toList.isEmpty = false) (hps : p.size ≤ 65536) (hk : k.size ≤ 65536) (hd : noDot k k.size) (w : World) :
    Calls Try.prog 3 #[.string p, .string k] w (mainPost w) := by
  have h1 : (p.size : Int) ≤ 65536 := by omega
  have h2 : (k.size : Int) ≤ 65536 := by omega
  have hl := cut_left p k
  have hr := cut_right p k
  have hs := size_join p k
  have hlen : p.size < (p ++ dotB ++ k).size := by omega
  obtain ⟨r, er⟩ : ∃ r, r = p ++ dotB ++ k := ⟨_, rfl⟩
  have C8 : ∀ w, Calls Try.prog 8 #[.string r] w fun e w' => e = .returned (.int .i64 p.size) ∧ w' = w := fun w => er ▸ lastDot_join p k hd w hps hk
  have C10 : ∀ w, Calls Try.prog 10 #[.string p, .string k] w fun e w' => e = .returned (.string r) ∧ w' = w := fun w => er ▸ member_cons k w p hp hps hk
  rw [← er] at hl hr hs hlen
  have HC8 : Hid _ := C8
  have HC10 : Hid _ := C10
  clear er C8 C10 hs
  go_enter Try.func3, Try.ntmps3
  go_wp2_with (first | (go_at_call 5; refine (bytes_any p k (by unfold maxLen; omega) (by unfold maxLen; omega) _).mono ?_; rintro e w' ⟨⟨r, rfl⟩, rfl⟩) | (go_at_call 6; refine (hasDot_any k _ (by omega)).mono ?_; rintro e w' ⟨⟨r, rfl, hr⟩, rfl⟩; clear hr) | (go_at_call 10; refine (HC10.out _).mono ?_; rintro e w' ⟨rfl, rfl⟩) | (go_at_call 8; refine (HC8.out _).mono ?_; rintro e w' ⟨rfl, rfl⟩) | go_in)
  all_goals (go_ret; exact ⟨rfl, rfl⟩)

theorem main_any (p k : ByteArray) (hp : p.size ≤ maxLen) (hk : k.size ≤ maxLen) (w : World) :
    Calls Try.prog 3 #[.string p, .string k] w (mainPost w) := by
  by_cases hbig : p.size ≤ 65536 ∧ k.size ≤ 65536
  · by_cases hd : noDot k k.size
    · cases hn : p.toList.isEmpty with
      | true => exact main_nil p k hn hbig.1 hbig.2 hd w
      | false => exact main_join p k hn hbig.1 hbig.2 hd w
    · exact main_dot p k hbig.1 hbig.2 hd w
  · exact main_big p k hp hk hbig w

end Go.Proofs.Qxb6603366a
