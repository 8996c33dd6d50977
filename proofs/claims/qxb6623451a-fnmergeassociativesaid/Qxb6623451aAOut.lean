/-
  FnMergeAssociative (4), out of its bounds: true at once.
-/
import Derived.Test.Qxb6623451aParts
import Derived.Test.Qxb6623451aSums
namespace Go.Proofs.Qxb6623451a
open Go.RowKit Go.Maps Go.WideMaps
set_option linter.unusedVariables false

set_option maxRecDepth 100000 in
set_option maxHeartbeats 4000000 in
theorem assoc_out (a0 a1 a3 a4 a5 a6 a8 a9 a11 : Option Addr) (l0 c0 l1 c1 l3 c3 l4 c4 l5 c5 l6 c6 l8 c8 l9 c9 l11 c11 : Nat) (x2 x7 x10 : Int) (s0 s5 s9 : Nat → ByteArray) (w : World)
    (r0 : RowOf w a0 l0 (fun j => .string (s0 j))) (r5 : RowOf w a5 l5 (fun j => .string (s5 j))) (r9 : RowOf w a9 l9 (fun j => .string (s9 j))) (m0 : l0 ≤ maxLen) (m1 : l1 ≤ maxLen) (m3 : l3 ≤ maxLen) (m4 : l4 ≤ maxLen) (m5 : l5 ≤ maxLen) (m6 : l6 ≤ maxLen) (m8 : l8 ≤ maxLen) (m9 : l9 ≤ maxLen) (m11 : l11 ≤ maxLen)
    (hout : ¬ (l0 ≤ 65536 ∧ l1 ≤ 65536 ∧ l3 ≤ 65536 ∧ l4 ≤ 65536 ∧ l5 ≤ 65536 ∧ l6 ≤ 65536 ∧ l8 ≤ 65536 ∧ l9 ≤ 65536 ∧ l11 ≤ 65536)) :
    Calls Try.prog 4 #[.slice a0 l0 c0, .slice a1 l1 c1, .int .i64 x2, .slice a3 l3 c3, .slice a4 l4 c4, .slice a5 l5 c5, .slice a6 l6 c6, .int .i64 x7, .slice a8 l8 c8, .slice a9 l9 c9, .int .i64 x10, .slice a11 l11 c11] w fun e w' => e = .returned (.bool true) ∧ w' = w := by
  have HB := bytesA_any a0 a1 a3 a4 a5 a6 a8 a9 a11 l0 c0 l1 c1 l3 c3 l4 c4 l5 c5 l6 c6 l8 c8 l9 c9 l11 c11 x2 x7 x10 s0 s5 s9 w r0 r5 r9 m0 m5 m9
  have H0 : Hid (l0 ≤ maxLen) := m0
  have H5 : Hid (l5 ≤ maxLen) := m5
  have H9 : Hid (l9 ≤ maxLen) := m9
  have HO : Hid (¬ (l0 ≤ 65536 ∧ l1 ≤ 65536 ∧ l3 ≤ 65536 ∧ l4 ≤ 65536 ∧ l5 ≤ 65536 ∧ l6 ≤ 65536 ∧ l8 ≤ 65536 ∧ l9 ≤ 65536 ∧ l11 ≤ 65536)) := hout
  clear hout
  unfold maxLen at m0 m1 m3 m4 m5 m6 m8 m9 m11
  go_enter Try.func4, Try.ntmps4
  go_wp2_with fail
  refine HB.mono ?_
  rintro e w' ⟨⟨b, rfl⟩, rfl⟩
  clear HB
  go_wp2_with fail
  all_goals (try (go_ret; exact ⟨rfl, rfl⟩))
  exfalso
  have := HO.out
  omega

end Go.Proofs.Qxb6623451a
