/-
  escapeLength (7), ZZescapeLength (5), zzEscapeModel (6), zzBytes (4).
-/
import Derived.Test.Qxb6623460aWalks
namespace Go.Proofs.Qxb6623460a
open Go.RowKit
set_option linter.unusedVariables false

theorem bt_get (s : ByteArray) (i : Nat) (h : i < s.size) : ((s[i]'h).toNat : Int) = bt s.data.toList i := by
  unfold bt
  rw [List.getElem?_eq_getElem (by simpa using h)]
  rfl

theorem len_list (s : ByteArray) : s.data.toList.length = s.size := by simp

theorem beq_no {n v : Int} (h : ¬ n = v) : (n == v) = false := by
  simp
  omega

set_option maxHeartbeats 1000000 in
theorem esc_lt2 (s : ByteArray) (w : World) (h : s.size < 2) : Calls Try.prog 7 #[.string s] w fun e w' => e = .returned (.int .i64 0) ∧ w' = w := by
  go_enter Try.func7, Try.ntmps7
  go_wp2
  go_ret
  exact ⟨rfl, rfl⟩

set_option maxHeartbeats 1000000 in
theorem esc_34 (s : ByteArray) (w : World) (h : 2 ≤ s.size) (hm : s.size ≤ 2 ^ 63 - 1) (k1 : ∀ h, ((s[1]'h).toNat : Int) = 34) : Calls Try.prog 7 #[.string s] w fun e w' => e = .returned (.int .i64 2) ∧ w' = w := by
  go_enter Try.func7, Try.ntmps7
  go_wp2
  go_ret
  exact ⟨rfl, rfl⟩

set_option maxHeartbeats 1000000 in
theorem esc_92 (s : ByteArray) (w : World) (h : 2 ≤ s.size) (hm : s.size ≤ 2 ^ 63 - 1) (k1 : ∀ h, ((s[1]'h).toNat : Int) = 92) : Calls Try.prog 7 #[.string s] w fun e w' => e = .returned (.int .i64 2) ∧ w' = w := by
  go_enter Try.func7, Try.ntmps7
  go_wp2
  go_ret
  exact ⟨rfl, rfl⟩

set_option maxHeartbeats 1000000 in
theorem esc_47 (s : ByteArray) (w : World) (h : 2 ≤ s.size) (hm : s.size ≤ 2 ^ 63 - 1) (k1 : ∀ h, ((s[1]'h).toNat : Int) = 47) : Calls Try.prog 7 #[.string s] w fun e w' => e = .returned (.int .i64 2) ∧ w' = w := by
  go_enter Try.func7, Try.ntmps7
  go_wp2
  go_ret
  exact ⟨rfl, rfl⟩

set_option maxHeartbeats 1000000 in
theorem esc_98 (s : ByteArray) (w : World) (h : 2 ≤ s.size) (hm : s.size ≤ 2 ^ 63 - 1) (k1 : ∀ h, ((s[1]'h).toNat : Int) = 98) : Calls Try.prog 7 #[.string s] w fun e w' => e = .returned (.int .i64 2) ∧ w' = w := by
  go_enter Try.func7, Try.ntmps7
  go_wp2
  go_ret
  exact ⟨rfl, rfl⟩

set_option maxHeartbeats 1000000 in
theorem esc_102 (s : ByteArray) (w : World) (h : 2 ≤ s.size) (hm : s.size ≤ 2 ^ 63 - 1) (k1 : ∀ h, ((s[1]'h).toNat : Int) = 102) : Calls Try.prog 7 #[.string s] w fun e w' => e = .returned (.int .i64 2) ∧ w' = w := by
  go_enter Try.func7, Try.ntmps7
  go_wp2
  go_ret
  exact ⟨rfl, rfl⟩

set_option maxHeartbeats 1000000 in
theorem esc_110 (s : ByteArray) (w : World) (h : 2 ≤ s.size) (hm : s.size ≤ 2 ^ 63 - 1) (k1 : ∀ h, ((s[1]'h).toNat : Int) = 110) : Calls Try.prog 7 #[.string s] w fun e w' => e = .returned (.int .i64 2) ∧ w' = w := by
  go_enter Try.func7, Try.ntmps7
  go_wp2
  go_ret
  exact ⟨rfl, rfl⟩

set_option maxHeartbeats 1000000 in
theorem esc_114 (s : ByteArray) (w : World) (h : 2 ≤ s.size) (hm : s.size ≤ 2 ^ 63 - 1) (k1 : ∀ h, ((s[1]'h).toNat : Int) = 114) : Calls Try.prog 7 #[.string s] w fun e w' => e = .returned (.int .i64 2) ∧ w' = w := by
  go_enter Try.func7, Try.ntmps7
  go_wp2
  go_ret
  exact ⟨rfl, rfl⟩

set_option maxHeartbeats 1000000 in
theorem esc_116 (s : ByteArray) (w : World) (h : 2 ≤ s.size) (hm : s.size ≤ 2 ^ 63 - 1) (k1 : ∀ h, ((s[1]'h).toNat : Int) = 116) : Calls Try.prog 7 #[.string s] w fun e w' => e = .returned (.int .i64 2) ∧ w' = w := by
  go_enter Try.func7, Try.ntmps7
  go_wp2
  go_ret
  exact ⟨rfl, rfl⟩

set_option maxHeartbeats 1000000 in
theorem esc_no (s : ByteArray) (n : Int) (w : World) (h : 2 ≤ s.size) (hm : s.size ≤ 2 ^ 63 - 1) (k1 : ∀ h, ((s[1]'h).toNat : Int) = n) (h34 : (n == 34) = false) (h92 : (n == 92) = false) (h47 : (n == 47) = false) (h98 : (n == 98) = false) (h102 : (n == 102) = false) (h110 : (n == 110) = false) (h114 : (n == 114) = false) (h116 : (n == 116) = false) (h117 : (n == 117) = false) : Calls Try.prog 7 #[.string s] w fun e w' => e = .returned (.int .i64 0) ∧ w' = w := by
  go_enter Try.func7, Try.ntmps7
  go_wp2
  go_ret
  exact ⟨rfl, rfl⟩

set_option maxHeartbeats 1000000 in
theorem esc_u_short (s : ByteArray) (w : World) (h : 2 ≤ s.size) (h6 : s.size < 6) (k1 : ∀ h, ((s[1]'h).toNat : Int) = 117) : Calls Try.prog 7 #[.string s] w fun e w' => e = .returned (.int .i64 0) ∧ w' = w := by
  go_enter Try.func7, Try.ntmps7
  go_wp2
  go_ret
  exact ⟨rfl, rfl⟩

set_option maxHeartbeats 1000000 in
theorem esc_u (s : ByteArray) (n2 n3 n4 n5 : Int) (b2 b3 b4 b5 : Bool) (w : World) (h6 : 6 ≤ s.size) (hm : s.size ≤ 2 ^ 63 - 1) (k1 : ∀ h, ((s[1]'h).toNat : Int) = 117)
    (k2 : ∀ h, ((s[2]'h).toNat : Int) = n2) (k3 : ∀ h, ((s[3]'h).toNat : Int) = n3) (k4 : ∀ h, ((s[4]'h).toNat : Int) = n4) (k5 : ∀ h, ((s[5]'h).toNat : Int) = n5)
    (e2 : hexN n2 = b2) (e3 : hexN n3 = b3) (e4 : hexN n4 = b4) (e5 : hexN n5 = b5) :
    Calls Try.prog 7 #[.string s] w fun e w' => e = .returned (.int .i64 (if (b2 && b3 && b4 && b5) = true then 6 else 0)) ∧ w' = w := by
  have q2 := isHex_any n2 w
  have q3 := isHex_any n3 w
  have q4 := isHex_any n4 w
  have q5 := isHex_any n5 w
  rw [e2] at q2
  rw [e3] at q3
  rw [e4] at q4
  rw [e5] at q5
  clear e2 e3 e4 e5
  go_enter Try.func7, Try.ntmps7
  go_wp2_with fail
  refine q2.mono ?_
  rintro e w' ⟨rfl, hw⟩
  obtain rfl := hw.symm
  cases b2
  · go_wp2
    go_ret
    exact ⟨rfl, rfl⟩
  go_wp2_with fail
  refine q3.mono ?_
  rintro e w' ⟨rfl, hw⟩
  obtain rfl := hw.symm
  cases b3
  · go_wp2
    go_ret
    exact ⟨rfl, rfl⟩
  go_wp2_with fail
  refine q4.mono ?_
  rintro e w' ⟨rfl, hw⟩
  obtain rfl := hw.symm
  cases b4
  · go_wp2
    go_ret
    exact ⟨rfl, rfl⟩
  go_wp2_with fail
  refine q5.mono ?_
  rintro e w' ⟨rfl, hw⟩
  obtain rfl := hw.symm
  cases b5
  · go_wp2
    go_ret
    exact ⟨rfl, rfl⟩
  go_wp2
  go_ret
  exact ⟨rfl, rfl⟩

theorem esc_any (s : ByteArray) (w : World) (hm : s.size ≤ 2 ^ 63 - 1) : Calls Try.prog 7 #[.string s] w fun e w' => e = .returned (.int .i64 (escL s.data.toList)) ∧ w' = w := by
  by_cases h2 : s.size < 2
  · rw [esc_zero_short (by rw [len_list]; exact h2)]
    exact esc_lt2 s w h2
  have h2' : 2 ≤ s.size := by omega
  have k1 : ∀ h, ((s[1]'h).toNat : Int) = bt s.data.toList 1 := fun h => bt_get s 1 h
  by_cases h34 : bt s.data.toList 1 = 34
  · rw [esc_two_mk (by rw [len_list]; exact h2') (by rw [h34]; decide)]
    exact esc_34 s w h2' hm (fun h => (k1 h).trans h34)
  by_cases h92 : bt s.data.toList 1 = 92
  · rw [esc_two_mk (by rw [len_list]; exact h2') (by rw [h92]; decide)]
    exact esc_92 s w h2' hm (fun h => (k1 h).trans h92)
  by_cases h47 : bt s.data.toList 1 = 47
  · rw [esc_two_mk (by rw [len_list]; exact h2') (by rw [h47]; decide)]
    exact esc_47 s w h2' hm (fun h => (k1 h).trans h47)
  by_cases h98 : bt s.data.toList 1 = 98
  · rw [esc_two_mk (by rw [len_list]; exact h2') (by rw [h98]; decide)]
    exact esc_98 s w h2' hm (fun h => (k1 h).trans h98)
  by_cases h102 : bt s.data.toList 1 = 102
  · rw [esc_two_mk (by rw [len_list]; exact h2') (by rw [h102]; decide)]
    exact esc_102 s w h2' hm (fun h => (k1 h).trans h102)
  by_cases h110 : bt s.data.toList 1 = 110
  · rw [esc_two_mk (by rw [len_list]; exact h2') (by rw [h110]; decide)]
    exact esc_110 s w h2' hm (fun h => (k1 h).trans h110)
  by_cases h114 : bt s.data.toList 1 = 114
  · rw [esc_two_mk (by rw [len_list]; exact h2') (by rw [h114]; decide)]
    exact esc_114 s w h2' hm (fun h => (k1 h).trans h114)
  by_cases h116 : bt s.data.toList 1 = 116
  · rw [esc_two_mk (by rw [len_list]; exact h2') (by rw [h116]; decide)]
    exact esc_116 s w h2' hm (fun h => (k1 h).trans h116)
  have hs : shortN (bt s.data.toList 1) = false := by
    cases hs : shortN (bt s.data.toList 1)
    · rfl
    · have := (shortN_iff _).1 hs
      omega
  by_cases h117 : bt s.data.toList 1 = 117
  · by_cases h6 : s.size < 6
    · rw [esc_zero_mk hs (fun hc => by have := hc.2.1; rw [len_list] at this; omega)]
      exact esc_u_short s w h2' h6 (fun h => (k1 h).trans h117)
    · have e : escL s.data.toList = if (hexN (bt s.data.toList 2) && hexN (bt s.data.toList 3) && hexN (bt s.data.toList 4) && hexN (bt s.data.toList 5)) = true then 6 else 0 := by
        split
        · exact esc_six_mk h117 (by rw [len_list]; omega) (by assumption)
        · exact esc_zero_mk hs (fun hc => by have := hc.2.2; contradiction)
      rw [e]
      exact esc_u s _ _ _ _ _ _ _ _ w (by omega) hm (fun h => (k1 h).trans h117) (fun h => bt_get s 2 h) (fun h => bt_get s 3 h) (fun h => bt_get s 4 h) (fun h => bt_get s 5 h) rfl rfl rfl rfl
  · rw [esc_zero_mk hs (fun hc => h117 hc.1)]
    exact esc_no s _ w h2' hm k1 (beq_no h34) (beq_no h92) (beq_no h47) (beq_no h98) (beq_no h102) (beq_no h110) (beq_no h114) (beq_no h116) (beq_no h117)

set_option maxHeartbeats 1000000 in
theorem zz_any (s : ByteArray) (w : World) (hm : s.size ≤ 2 ^ 63 - 1) : Calls Try.prog 5 #[.string s] w fun e w' => e = .returned (.int .i64 (escL s.data.toList)) ∧ w' = w := by
  have q := esc_any s w hm
  generalize escL s.data.toList = n at q ⊢
  go_enter Try.func5, Try.ntmps5
  go_wp2_with fail
  refine q.mono ?_
  rintro e w' ⟨rfl, hw⟩
  obtain rfl := hw.symm
  go_wp2
  go_ret
  exact ⟨rfl, rfl⟩

end Go.Proofs.Qxb6623460a
