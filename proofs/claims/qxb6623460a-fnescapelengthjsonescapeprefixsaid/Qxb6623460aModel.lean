/-
  zzEscapeModel (6), zzBytes (4).
-/
import Derived.Test.Qxb6623460aEsc
namespace Go.Proofs.Qxb6623460a
open Go.RowKit
set_option linter.unusedVariables false

set_option maxHeartbeats 1000000 in
theorem model_lt2 (s : ByteArray) (w : World) (h : s.size < 2) : Calls Try.prog 6 #[.string s] w fun e w' => e = .returned (.int .i64 0) ∧ w' = w := by
  go_enter Try.func6, Try.ntmps6
  go_wp2
  go_ret
  exact ⟨rfl, rfl⟩

set_option maxHeartbeats 1000000 in
theorem model_yes (s : ByteArray) (n : Int) (w : World) (h : 2 ≤ s.size) (hm : s.size ≤ 2 ^ 63 - 1) (k1 : ∀ h, ((s[1]'h).toNat : Int) = n) (hs : shortN n = true) : Calls Try.prog 6 #[.string s] w fun e w' => e = .returned (.int .i64 2) ∧ w' = w := by
  have q := short_any n w
  rw [hs] at q
  clear hs
  go_enter Try.func6, Try.ntmps6
  go_wp2_with fail
  refine q.mono ?_
  rintro e w' ⟨⟨x, rfl⟩, hw⟩
  obtain rfl := hw.symm
  go_wp2
  go_ret
  exact ⟨rfl, rfl⟩

set_option maxHeartbeats 1000000 in
theorem model_no (s : ByteArray) (n : Int) (w : World) (h : 2 ≤ s.size) (hm : s.size ≤ 2 ^ 63 - 1) (k1 : ∀ h, ((s[1]'h).toNat : Int) = n) (hs : shortN n = false) (hu : (n == 117) = false) : Calls Try.prog 6 #[.string s] w fun e w' => e = .returned (.int .i64 0) ∧ w' = w := by
  have q := short_any n w
  rw [hs] at q
  clear hs
  go_enter Try.func6, Try.ntmps6
  go_wp2_with fail
  refine q.mono ?_
  rintro e w' ⟨⟨x, rfl⟩, hw⟩
  obtain rfl := hw.symm
  have hu' : (n != 117) = true := by simp [bne, hu]
  go_wp2
  all_goals (go_ret; exact ⟨rfl, rfl⟩)

set_option maxHeartbeats 1000000 in
theorem model_u_short (s : ByteArray) (w : World) (h : 2 ≤ s.size) (h6 : s.size < 6) (k1 : ∀ h, ((s[1]'h).toNat : Int) = 117) : Calls Try.prog 6 #[.string s] w fun e w' => e = .returned (.int .i64 0) ∧ w' = w := by
  have q := short_any 117 w
  rw [short_117] at q
  go_enter Try.func6, Try.ntmps6
  go_wp2_with fail
  refine q.mono ?_
  rintro e w' ⟨⟨x, rfl⟩, hw⟩
  obtain rfl := hw.symm
  go_wp2
  all_goals (go_ret; exact ⟨rfl, rfl⟩)

set_option maxHeartbeats 2000000 in
theorem model_u (s : ByteArray) (n2 n3 n4 n5 : Int) (b2 b3 b4 b5 : Bool) (w : World) (h6 : 6 ≤ s.size) (hm : s.size ≤ 2 ^ 63 - 1) (k1 : ∀ h, ((s[1]'h).toNat : Int) = 117)
    (k2 : ∀ h, ((s[2]'h).toNat : Int) = n2) (k3 : ∀ h, ((s[3]'h).toNat : Int) = n3) (k4 : ∀ h, ((s[4]'h).toNat : Int) = n4) (k5 : ∀ h, ((s[5]'h).toNat : Int) = n5)
    (m2 : 0 ≤ n2 ∧ n2 ≤ 255) (m3 : 0 ≤ n3 ∧ n3 ≤ 255) (m4 : 0 ≤ n4 ∧ n4 ≤ 255) (m5 : 0 ≤ n5 ∧ n5 ≤ 255)
    (e2 : hexN n2 = b2) (e3 : hexN n3 = b3) (e4 : hexN n4 = b4) (e5 : hexN n5 = b5) :
    Calls Try.prog 6 #[.string s] w fun e w' => e = .returned (.int .i64 (if (b2 && b3 && b4 && b5) = true then 6 else 0)) ∧ w' = w := by
  have q := short_any 117 w
  rw [short_117] at q
  have q2 := hexV_any n2 w m2.1 m2.2
  have E2 : Hid (hexN n2 = b2) := e2
  have q3 := hexV_any n3 w m3.1 m3.2
  have E3 : Hid (hexN n3 = b3) := e3
  have q4 := hexV_any n4 w m4.1 m4.2
  have E4 : Hid (hexN n4 = b4) := e4
  have q5 := hexV_any n5 w m5.1 m5.2
  have E5 : Hid (hexN n5 = b5) := e5
  clear e2 e3 e4 e5 m2 m3 m4 m5
  go_enter Try.func6, Try.ntmps6
  go_wp2_with fail
  refine q.mono ?_
  rintro e w' ⟨⟨x, rfl⟩, hw⟩
  obtain rfl := hw.symm
  clear q
  go_wp2
  refine wp_loop_rounds 5 ?_
  rw [rounds_succ]
  go_wp2_with fail
  refine q2.mono ?_
  rintro e w' ⟨⟨d2, rfl, hd2⟩, hw⟩
  obtain rfl := hw.symm
  clear q2
  cases b2
  · have hn := hd2.2 E2.out
    go_wp2
    go_ret
    exact ⟨rfl, rfl⟩
  obtain ⟨y2, z2⟩ := hd2.1 E2.out
  clear hd2
  go_wp2
  rw [rounds_succ]
  go_wp2_with fail
  refine q3.mono ?_
  rintro e w' ⟨⟨d3, rfl, hd3⟩, hw⟩
  obtain rfl := hw.symm
  clear q3
  cases b3
  · have hn := hd3.2 E3.out
    go_wp2
    go_ret
    exact ⟨rfl, rfl⟩
  obtain ⟨y3, z3⟩ := hd3.1 E3.out
  clear hd3
  go_wp2
  rw [rounds_succ]
  go_wp2_with fail
  refine q4.mono ?_
  rintro e w' ⟨⟨d4, rfl, hd4⟩, hw⟩
  obtain rfl := hw.symm
  clear q4
  cases b4
  · have hn := hd4.2 E4.out
    go_wp2
    go_ret
    exact ⟨rfl, rfl⟩
  obtain ⟨y4, z4⟩ := hd4.1 E4.out
  clear hd4
  go_wp2
  rw [rounds_succ]
  go_wp2_with fail
  refine q5.mono ?_
  rintro e w' ⟨⟨d5, rfl, hd5⟩, hw⟩
  obtain rfl := hw.symm
  clear q5
  cases b5
  · have hn := hd5.2 E5.out
    go_wp2
    go_ret
    exact ⟨rfl, rfl⟩
  obtain ⟨y5, z5⟩ := hd5.1 E5.out
  clear hd5
  go_wp2
  rw [rounds_succ]
  go_wp2
  go_ret
  exact ⟨rfl, rfl⟩

theorem model_any (s : ByteArray) (w : World) (hm : s.size ≤ 2 ^ 63 - 1) : Calls Try.prog 6 #[.string s] w fun e w' => e = .returned (.int .i64 (escL s.data.toList)) ∧ w' = w := by
  by_cases h2 : s.size < 2
  · rw [esc_zero_short (by rw [len_list]; exact h2)]
    exact model_lt2 s w h2
  have h2' : 2 ≤ s.size := by omega
  have k1 : ∀ h, ((s[1]'h).toNat : Int) = bt s.data.toList 1 := fun h => bt_get s 1 h
  cases hs : shortN (bt s.data.toList 1)
  · by_cases h117 : bt s.data.toList 1 = 117
    · by_cases h6 : s.size < 6
      · rw [esc_zero_mk hs (fun hc => by have := hc.2.1; rw [len_list] at this; omega)]
        exact model_u_short s w h2' h6 (fun h => (k1 h).trans h117)
      · have e : escL s.data.toList = if (hexN (bt s.data.toList 2) && hexN (bt s.data.toList 3) && hexN (bt s.data.toList 4) && hexN (bt s.data.toList 5)) = true then 6 else 0 := by
          split
          · exact esc_six_mk h117 (by rw [len_list]; omega) (by assumption)
          · exact esc_zero_mk hs (fun hc => by have := hc.2.2; contradiction)
        rw [e]
        exact model_u s _ _ _ _ _ _ _ _ w (by omega) hm (fun h => (k1 h).trans h117) (fun h => bt_get s 2 h) (fun h => bt_get s 3 h) (fun h => bt_get s 4 h) (fun h => bt_get s 5 h) (bt_le _ _) (bt_le _ _) (bt_le _ _) (bt_le _ _) rfl rfl rfl rfl
    · rw [esc_zero_mk hs (fun hc => h117 hc.1)]
      exact model_no s _ w h2' hm k1 hs (beq_no h117)
  · rw [esc_two_mk (by rw [len_list]; exact h2') hs]
    exact model_yes s _ w h2' hm k1 hs

/-- Some bool comes back. -/
def RetB (e : Ending) : Prop := ∃ b, e = .returned (.bool b)

set_option maxHeartbeats 1000000 in
theorem bytes_any (s t : ByteArray) (w : World) (hm : s.size ≤ 2 ^ 63 - 1) (ht : t.size ≤ 2 ^ 63 - 1) : Calls Try.prog 4 #[.string s, .string t] w fun e w' => RetB e ∧ w' = w := by
  go_enter Try.func4, Try.ntmps4
  go_wp2
  all_goals (go_ret; exact ⟨⟨_, rfl⟩, rfl⟩)

end Go.Proofs.Qxb6623460a
