/-
  zzAddStringsB1 (6): it returns; what it returns is of no account.
-/
import Derived.Test.Qxb6623451aLeaf
namespace Go.Proofs.Qxb6623451a
open Go.RowKit Go.Maps Go.WideMaps
set_option linter.unusedVariables false

set_option maxHeartbeats 400000 in
theorem adds_any (t0 : Int) (a : Option Addr) (len cap : Nat) (ss : Nat → ByteArray) (w : World) (hr : RowOf w a len (fun j => .string (ss j))) (hl : len ≤ maxLen) :
    Calls Try.prog 6 #[.int .i64 t0, .slice a len cap] w fun e w' => (∃ m, e = .returned (.int .i64 m)) ∧ w' = w := by
  unfold maxLen at hl
  go_enter Try.func6, Try.ntmps6
  go_wp2
  · go_ret
    exact ⟨⟨_, rfl⟩, rfl⟩
  go_loop [0, 5] (fun t i => ∃ k : Nat, k ≤ len ∧ i = .int .i64 k ∧ ∃ m, t = .int .i64 m) (fun _ i => len - (intOf i).toNat)
  case atStart => exact ⟨0, Nat.zero_le _, rfl, _, rfl⟩
  case round =>
    obtain ⟨k, hk, rfl, m, rfl⟩ := hrel
    by_cases hlt : k < len
    · obtain ⟨b, off, rfl, hc⟩ := hr k hlt
      go_wp2
      · go_ret
        exact ⟨⟨_, rfl⟩, rfl⟩
      · go_ret
        exact ⟨⟨_, rfl⟩, rfl⟩
      go_round
      case rel => exact ⟨k + 1, by omega, by go_num, _, rfl⟩
      case measure => simp [intOf]; omega
    · go_wp2
      go_ret
      exact ⟨⟨_, rfl⟩, rfl⟩

/-- Some bool comes back. -/
def RetB (e : Ending) : Prop := ∃ b, e = .returned (.bool b)

set_option maxHeartbeats 4000000 in
theorem bytesP_any (a0 a1 a3 a4 a5 a6 a8 a9 : Option Addr) (l0 c0 l1 c1 l3 c3 l4 c4 l5 c5 l6 c6 l8 c8 l9 c9 : Nat) (x2 x7 x10 x11 : Int) (s0 s5 : Nat → ByteArray) (w : World)
    (r0 : RowOf w a0 l0 (fun j => .string (s0 j))) (r5 : RowOf w a5 l5 (fun j => .string (s5 j))) (m0 : l0 ≤ maxLen) (m5 : l5 ≤ maxLen) :
    Calls Try.prog 5 #[.slice a0 l0 c0, .slice a1 l1 c1, .int .i64 x2, .slice a3 l3 c3, .slice a4 l4 c4, .slice a5 l5 c5, .slice a6 l6 c6, .int .i64 x7, .slice a8 l8 c8, .slice a9 l9 c9, .int .i64 x10, .int .i64 x11] w
      fun e w' => RetB e ∧ w' = w := by
  unfold maxLen at m0 m5
  go_enter Try.func5, Try.ntmps5
  go_wp2
  all_goals (try (go_ret; exact ⟨⟨_, rfl⟩, rfl⟩))
  go_loop [25, 26] (fun t i => ∃ k : Nat, k ≤ l0 ∧ i = .int .i64 k ∧ ∃ m, t = .int .i64 m) (fun _ i => l0 - (intOf i).toNat)
  case atStart => exact ⟨0, Nat.zero_le _, rfl, _, rfl⟩
  case round =>
    obtain ⟨k, hk, rfl, m, rfl⟩ := hrel
    by_cases hlt : k < l0
    · obtain ⟨b, off, rfl, hc⟩ := r0 k hlt
      go_wp2
      all_goals (try (go_ret; exact ⟨⟨_, rfl⟩, rfl⟩))
      go_round
      case rel => exact ⟨k + 1, by omega, by go_num, _, rfl⟩
      case measure => simp [intOf]; omega
    · clear hk
      go_wp2
      all_goals (try (go_ret; exact ⟨⟨_, rfl⟩, rfl⟩))
      go_loop [25, 27] (fun t i => ∃ k : Nat, k ≤ l5 ∧ i = .int .i64 k ∧ ∃ m, t = .int .i64 m) (fun _ i => l5 - (intOf i).toNat)
      case atStart => exact ⟨0, Nat.zero_le _, rfl, _, rfl⟩
      case round =>
        obtain ⟨k, hk, rfl, m, rfl⟩ := hrel
        by_cases hlt : k < l5
        · obtain ⟨b, off, rfl, hc⟩ := r5 k hlt
          go_wp2
          all_goals (try (go_ret; exact ⟨⟨_, rfl⟩, rfl⟩))
          go_round
          case rel => exact ⟨k + 1, by omega, by go_num, _, rfl⟩
          case measure => simp [intOf]; omega
        · clear hk
          go_wp2
          all_goals (go_ret; exact ⟨⟨_, rfl⟩, rfl⟩)

set_option maxHeartbeats 4000000 in
theorem bytesA_any (a0 a1 a3 a4 a5 a6 a8 a9 a11 : Option Addr) (l0 c0 l1 c1 l3 c3 l4 c4 l5 c5 l6 c6 l8 c8 l9 c9 l11 c11 : Nat) (x2 x7 x10 : Int) (s0 s5 s9 : Nat → ByteArray) (w : World)
    (r0 : RowOf w a0 l0 (fun j => .string (s0 j))) (r5 : RowOf w a5 l5 (fun j => .string (s5 j))) (r9 : RowOf w a9 l9 (fun j => .string (s9 j))) (m0 : l0 ≤ maxLen) (m5 : l5 ≤ maxLen) (m9 : l9 ≤ maxLen) :
    Calls Try.prog 15 #[.slice a0 l0 c0, .slice a1 l1 c1, .int .i64 x2, .slice a3 l3 c3, .slice a4 l4 c4, .slice a5 l5 c5, .slice a6 l6 c6, .int .i64 x7, .slice a8 l8 c8, .slice a9 l9 c9, .int .i64 x10, .slice a11 l11 c11] w
      fun e w' => RetB e ∧ w' = w := by
  unfold maxLen at m0 m5 m9
  go_enter Try.func15, Try.ntmps15
  go_wp2
  all_goals (try (go_ret; exact ⟨⟨_, rfl⟩, rfl⟩))
  go_loop [25, 26] (fun t i => ∃ k : Nat, k ≤ l0 ∧ i = .int .i64 k ∧ ∃ m, t = .int .i64 m) (fun _ i => l0 - (intOf i).toNat)
  case atStart => exact ⟨0, Nat.zero_le _, rfl, _, rfl⟩
  case round =>
    obtain ⟨k, hk, rfl, m, rfl⟩ := hrel
    by_cases hlt : k < l0
    · obtain ⟨b, off, rfl, hc⟩ := r0 k hlt
      go_wp2
      all_goals (try (go_ret; exact ⟨⟨_, rfl⟩, rfl⟩))
      go_round
      case rel => exact ⟨k + 1, by omega, by go_num, _, rfl⟩
      case measure => simp [intOf]; omega
    · clear hk
      go_wp2
      all_goals (try (go_ret; exact ⟨⟨_, rfl⟩, rfl⟩))
      go_loop [25, 27] (fun t i => ∃ k : Nat, k ≤ l5 ∧ i = .int .i64 k ∧ ∃ m, t = .int .i64 m) (fun _ i => l5 - (intOf i).toNat)
      case atStart => exact ⟨0, Nat.zero_le _, rfl, _, rfl⟩
      case round =>
        obtain ⟨k, hk, rfl, m, rfl⟩ := hrel
        by_cases hlt : k < l5
        · obtain ⟨b, off, rfl, hc⟩ := r5 k hlt
          go_wp2
          all_goals (try (go_ret; exact ⟨⟨_, rfl⟩, rfl⟩))
          go_round
          case rel => exact ⟨k + 1, by omega, by go_num, _, rfl⟩
          case measure => simp [intOf]; omega
        · clear hk
          go_wp2
          all_goals (try (go_ret; exact ⟨⟨_, rfl⟩, rfl⟩))
          go_loop [25, 28] (fun t i => ∃ k : Nat, k ≤ l9 ∧ i = .int .i64 k ∧ ∃ m, t = .int .i64 m) (fun _ i => l9 - (intOf i).toNat)
          case atStart => exact ⟨0, Nat.zero_le _, rfl, _, rfl⟩
          case round =>
            obtain ⟨k, hk, rfl, m, rfl⟩ := hrel
            by_cases hlt : k < l9
            · obtain ⟨b, off, rfl, hc⟩ := r9 k hlt
              go_wp2
              all_goals (try (go_ret; exact ⟨⟨_, rfl⟩, rfl⟩))
              go_round
              case rel => exact ⟨k + 1, by omega, by go_num, _, rfl⟩
              case measure => simp [intOf]; omega
            · clear hk
              go_wp2
              all_goals (go_ret; exact ⟨⟨_, rfl⟩, rfl⟩)

end Go.Proofs.Qxb6623451a
