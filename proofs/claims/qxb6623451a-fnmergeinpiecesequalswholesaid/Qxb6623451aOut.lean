/-
  FnMergeInPiecesEqualsWhole (3), where the input is out of its bounds: true at once.
-/
import Derived.Test.Qxb6623451aParts
import Derived.Test.Qxb6623451aSums
namespace Go.Proofs.Qxb6623451a
open Go.RowKit Go.Maps Go.WideMaps
set_option linter.unusedVariables false

set_option maxRecDepth 100000 in
set_option maxHeartbeats 4000000 in
theorem pieces_out (a0 a1 a3 a4 a5 a6 a8 a9 : Option Addr) (l0 c0 l1 c1 l3 c3 l4 c4 l5 c5 l6 c6 l8 c8 l9 c9 : Nat) (x2 x7 : Int) (x10 x11 : Int) (s0 s5 : Nat → ByteArray) (w : World)
    (r0 : RowOf w a0 l0 (fun j => .string (s0 j))) (r5 : RowOf w a5 l5 (fun j => .string (s5 j))) (m0 : l0 ≤ maxLen) (m1 : l1 ≤ maxLen) (m3 : l3 ≤ maxLen) (m4 : l4 ≤ maxLen) (m5 : l5 ≤ maxLen) (m6 : l6 ≤ maxLen) (m8 : l8 ≤ maxLen) (m9 : l9 ≤ maxLen)
    (hout : ¬ (l0 ≤ 65536 ∧ l1 ≤ 65536 ∧ l3 ≤ 65536 ∧ l4 ≤ 65536 ∧ l5 ≤ 65536 ∧ l6 ≤ 65536 ∧ l8 ≤ 65536 ∧ l9 ≤ 65536 ∧ 0 ≤ x10 ∧ x10 ≤ l5 ∧ 0 ≤ x11 ∧ x11 ≤ l8)) :
    Calls Try.prog 3 #[.slice a0 l0 c0, .slice a1 l1 c1, .int .i64 x2, .slice a3 l3 c3, .slice a4 l4 c4, .slice a5 l5 c5, .slice a6 l6 c6, .int .i64 x7, .slice a8 l8 c8, .slice a9 l9 c9, .int .i64 x10, .int .i64 x11] w fun e w' => e = .returned (.bool true) ∧ w' = w := by
  have HB := bytesP_any a0 a1 a3 a4 a5 a6 a8 a9 l0 c0 l1 c1 l3 c3 l4 c4 l5 c5 l6 c6 l8 c8 l9 c9 x2 x7 x10 x11 s0 s5 w r0 r5 m0 m5
  have H0 : Hid (l0 ≤ maxLen) := m0
  have H5 : Hid (l5 ≤ maxLen) := m5
  have HO : Hid (¬ (l0 ≤ 65536 ∧ l1 ≤ 65536 ∧ l3 ≤ 65536 ∧ l4 ≤ 65536 ∧ l5 ≤ 65536 ∧ l6 ≤ 65536 ∧ l8 ≤ 65536 ∧ l9 ≤ 65536 ∧ 0 ≤ x10 ∧ x10 ≤ l5 ∧ 0 ≤ x11 ∧ x11 ≤ l8)) := hout
  clear hout
  unfold maxLen at m0 m1 m3 m4 m5 m6 m8 m9
  go_enter Try.func3, Try.ntmps3
  go_wp2_with fail
  refine HB.mono ?_
  rintro e w' ⟨⟨b, rfl⟩, rfl⟩
  clear HB
  go_wp2_with fail
  all_goals (try (go_ret; exact ⟨rfl, rfl⟩))
  refine (adds_any _ a0 l0 c0 s0 _ r0 H0.out).mono ?_
  rintro e w' ⟨⟨t1, rfl⟩, rfl⟩
  go_wp2_with fail
  refine (adds_any _ a5 l5 c5 s5 _ r5 H5.out).mono ?_
  rintro e w' ⟨⟨t2, rfl⟩, rfl⟩
  go_wp2_with fail
  all_goals (first | (go_ret; exact ⟨rfl, rfl⟩) | (exfalso; have := HO.out; omega))

end Go.Proofs.Qxb6623451a
