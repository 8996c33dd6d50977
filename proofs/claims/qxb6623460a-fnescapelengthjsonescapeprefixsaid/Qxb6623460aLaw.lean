/-
  FnEscapeLengthJSONEscapePrefix (3).
-/
import Derived.Test.Qxb6623460aModel
import Derived.Lib.SmallJoins
namespace Go.Proofs.Qxb6623460a
open Go.RowKit
set_option linter.unusedVariables false

theorem zz_at (s : ByteArray) (v : Int) (w : World) (hm : s.size ≤ 2 ^ 63 - 1) (h : escL s.data.toList = v) : Calls Try.prog 5 #[.string s] w fun e w' => e = .returned (.int .i64 v) ∧ w' = w := by
  rw [← h]; exact zz_any s w hm
theorem model_at (s : ByteArray) (v : Int) (w : World) (hm : s.size ≤ 2 ^ 63 - 1) (h : escL s.data.toList = v) : Calls Try.prog 6 #[.string s] w fun e w' => e = .returned (.int .i64 v) ∧ w' = w := by
  rw [← h]; exact model_any s w hm

theorem take_data (s : ByteArray) (n : Nat) : (s.extract 0 n).data.toList = s.data.toList.take n := by
  rw [Lib.extract_data]
  simp

theorem size_take (s : ByteArray) (n : Nat) (h : s.size ≤ 2 ^ 63 - 1) : (s.extract 0 n).size ≤ 2 ^ 63 - 1 := by
  rw [ByteArray.size_extract]
  omega

set_option maxHeartbeats 2000000 in
theorem law_2 (s t : ByteArray) (w : World) (hs : s.size ≤ 2 ^ 63 - 1) (ht : t.size ≤ 2 ^ 63 - 1) (h : escL s.data.toList = 2) (hv : 2 ≤ s.size) :
    Calls Try.prog 3 #[.string s, .string t] w fun e w' => e = .returned (.bool true) ∧ w' = w := by
  have qb := bytes_any s t w hs ht
  have q1 := zz_at s 2 w hs h
  have q2 := model_at s 2 w hs h
  have q4 := zz_at (s.extract 0 2) 2 w (size_take s 2 hs) (by rw [take_data]; exact esc_take (n := 2) h (by decide))
  have q3 : s.size ≤ 65536 → t.size ≤ 65536 → Calls Try.prog 5 #[.string (s ++ t)] w fun e w' => e = .returned (.int .i64 2) ∧ w' = w := fun h1 h2 =>
    zz_at (s ++ t) 2 w (by rw [ByteArray.size_append]; omega) (by rw [Joins.data_append, esc_append _ (by rw [h]; decide), h])
  have q5 : ∀ k : Nat, k < 2 → Calls Try.prog 5 #[.string (s.extract 0 k)] w fun e w' => e = .returned (.int .i64 0) ∧ w' = w := fun k hk =>
    zz_at (s.extract 0 k) 0 w (size_take s k hs) (by rw [take_data]; exact esc_less (n := 2) h hk)
  clear h
  go_enter Try.func3, Try.ntmps3
  go_wp2_with fail
  refine qb.mono ?_
  rintro e w' ⟨⟨b, rfl⟩, hw⟩
  obtain rfl := hw.symm
  clear qb
  go_wp2_with fail
  all_goals (try (go_ret; exact ⟨rfl, rfl⟩))
  refine q1.mono ?_
  rintro e w' ⟨rfl, hw⟩
  obtain rfl := hw.symm
  clear q1
  go_wp2_with fail
  refine q2.mono ?_
  rintro e w' ⟨rfl, hw⟩
  obtain rfl := hw.symm
  clear q2
  go_wp2_with fail
  have h1 : s.size ≤ 65536 := by omega
  have h2 : t.size ≤ 65536 := by omega
  refine (q3 h1 h2).mono ?_
  rintro e w' ⟨rfl, hw⟩
  obtain rfl := hw.symm
  clear q3
  go_wp2_with fail
  refine q4.mono ?_
  rintro e w' ⟨rfl, hw⟩
  obtain rfl := hw.symm
  clear q4
  go_wp2_with fail
  go_loop [7] (fun i => ∃ k : Nat, k ≤ 2 ∧ i = .int .i64 k) (fun i => 2 - (intOf i).toNat)
  case atStart => exact ⟨0, Nat.zero_le _, rfl⟩
  case round =>
    obtain ⟨k, hk, rfl⟩ := hrel
    by_cases hlt : k < 2
    · have hk5 := q5 k hlt
      go_wp2_with fail
      refine hk5.mono ?_
      rintro e w' ⟨rfl, hw⟩
      obtain rfl := hw.symm
      go_wp2
      go_round
      case rel => exact ⟨k + 1, by omega, by go_num⟩
      case measure => simp [intOf]; omega
    · go_wp2
      go_ret
      exact ⟨rfl, rfl⟩

set_option maxHeartbeats 2000000 in
theorem law_6 (s t : ByteArray) (w : World) (hs : s.size ≤ 2 ^ 63 - 1) (ht : t.size ≤ 2 ^ 63 - 1) (h : escL s.data.toList = 6) (hv : 6 ≤ s.size) :
    Calls Try.prog 3 #[.string s, .string t] w fun e w' => e = .returned (.bool true) ∧ w' = w := by
  have qb := bytes_any s t w hs ht
  have q1 := zz_at s 6 w hs h
  have q2 := model_at s 6 w hs h
  have q4 := zz_at (s.extract 0 6) 6 w (size_take s 6 hs) (by rw [take_data]; exact esc_take (n := 6) h (by decide))
  have q3 : s.size ≤ 65536 → t.size ≤ 65536 → Calls Try.prog 5 #[.string (s ++ t)] w fun e w' => e = .returned (.int .i64 6) ∧ w' = w := fun h1 h2 =>
    zz_at (s ++ t) 6 w (by rw [ByteArray.size_append]; omega) (by rw [Joins.data_append, esc_append _ (by rw [h]; decide), h])
  have q5 : ∀ k : Nat, k < 6 → Calls Try.prog 5 #[.string (s.extract 0 k)] w fun e w' => e = .returned (.int .i64 0) ∧ w' = w := fun k hk =>
    zz_at (s.extract 0 k) 0 w (size_take s k hs) (by rw [take_data]; exact esc_less (n := 6) h hk)
  clear h
  go_enter Try.func3, Try.ntmps3
  go_wp2_with fail
  refine qb.mono ?_
  rintro e w' ⟨⟨b, rfl⟩, hw⟩
  obtain rfl := hw.symm
  clear qb
  go_wp2_with fail
  all_goals (try (go_ret; exact ⟨rfl, rfl⟩))
  refine q1.mono ?_
  rintro e w' ⟨rfl, hw⟩
  obtain rfl := hw.symm
  clear q1
  go_wp2_with fail
  refine q2.mono ?_
  rintro e w' ⟨rfl, hw⟩
  obtain rfl := hw.symm
  clear q2
  go_wp2_with fail
  have h1 : s.size ≤ 65536 := by omega
  have h2 : t.size ≤ 65536 := by omega
  refine (q3 h1 h2).mono ?_
  rintro e w' ⟨rfl, hw⟩
  obtain rfl := hw.symm
  clear q3
  go_wp2_with fail
  refine q4.mono ?_
  rintro e w' ⟨rfl, hw⟩
  obtain rfl := hw.symm
  clear q4
  go_wp2_with fail
  go_loop [7] (fun i => ∃ k : Nat, k ≤ 6 ∧ i = .int .i64 k) (fun i => 6 - (intOf i).toNat)
  case atStart => exact ⟨0, Nat.zero_le _, rfl⟩
  case round =>
    obtain ⟨k, hk, rfl⟩ := hrel
    by_cases hlt : k < 6
    · have hk5 := q5 k hlt
      go_wp2_with fail
      refine hk5.mono ?_
      rintro e w' ⟨rfl, hw⟩
      obtain rfl := hw.symm
      go_wp2
      go_round
      case rel => exact ⟨k + 1, by omega, by go_num⟩
      case measure => simp [intOf]; omega
    · go_wp2
      go_ret
      exact ⟨rfl, rfl⟩

set_option maxHeartbeats 2000000 in
theorem law_0 (s t : ByteArray) (w : World) (hs : s.size ≤ 2 ^ 63 - 1) (ht : t.size ≤ 2 ^ 63 - 1) (h : escL s.data.toList = 0) :
    Calls Try.prog 3 #[.string s, .string t] w fun e w' => e = .returned (.bool true) ∧ w' = w := by
  have qb := bytes_any s t w hs ht
  have q1 := zz_at s 0 w hs h
  have q2 := model_at s 0 w hs h
  have q3 : s.size ≤ 65536 → t.size ≤ 65536 → ∃ j, (6 ≤ s.size → j = 0) ∧ Calls Try.prog 5 #[.string (s ++ t)] w fun e w' => e = .returned (.int .i64 j) ∧ w' = w := fun h1 h2 =>
    ⟨_, fun h6 => esc_append_zero t.data.toList h (by rw [len_list]; exact h6), zz_at (s ++ t) _ w (by rw [ByteArray.size_append]; omega) (by rw [Joins.data_append])⟩
  clear h
  go_enter Try.func3, Try.ntmps3
  go_wp2_with fail
  refine qb.mono ?_
  rintro e w' ⟨⟨b, rfl⟩, hw⟩
  obtain rfl := hw.symm
  clear qb
  go_wp2_with fail
  all_goals (try (go_ret; exact ⟨rfl, rfl⟩))
  refine q1.mono ?_
  rintro e w' ⟨rfl, hw⟩
  obtain rfl := hw.symm
  clear q1
  go_wp2_with fail
  refine q2.mono ?_
  rintro e w' ⟨rfl, hw⟩
  obtain rfl := hw.symm
  clear q2
  go_wp2_with fail
  have h1 : s.size ≤ 65536 := by omega
  have h2 : t.size ≤ 65536 := by omega
  obtain ⟨j, hj, q⟩ := q3 h1 h2
  clear q3
  refine q.mono ?_
  rintro e w' ⟨rfl, hw⟩
  obtain rfl := hw.symm
  clear q
  by_cases h6 : 6 ≤ s.size
  · have h0 := hj h6
    clear hj
    subst h0
    go_wp2
    go_ret
    exact ⟨rfl, rfl⟩
  · clear hj
    go_wp2
    go_ret
    exact ⟨rfl, rfl⟩

theorem law_any (s t : ByteArray) (hs : s.size ≤ maxLen) (ht : t.size ≤ maxLen) (w : World) :
    Calls Try.prog 3 #[.string s, .string t] w fun e w' => e = .returned (.bool true) ∧ w' = w := by
  unfold maxLen at hs ht
  rcases esc_vals s.data.toList with h | h | h
  · exact law_0 s t w hs ht h
  · have := (esc_two h).1
    rw [len_list] at this
    exact law_2 s t w hs ht h this
  · have := (esc_six h).2.1
    rw [len_list] at this
    exact law_6 s t w hs ht h this

end Go.Proofs.Qxb6623460a
