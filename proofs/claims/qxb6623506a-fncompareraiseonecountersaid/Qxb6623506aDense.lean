/-
  zzAllAtMost (13), zzDenseOrder (7).
-/
import Derived.Test.Qxb6623506aLeaf
import Derived.Deep.TreeCalls
namespace Go.Proofs.Qxb6623506a
open Go.RowKit
set_option linter.unusedVariables false

def allAt (p c p2 c2 : Nat → Int) (l2 : Nat) : Nat → Nat → Bool
  | 0, _ => true
  | n + 1, i => if cAt p2 c2 l2 0 (p i) < c i then false else allAt p c p2 c2 l2 n (i + 1)

theorem ret_bool {a b : Bool} (h : a = b) : Ending.returned (.bool a) = .returned (.bool b) := by rw [h]

theorem drawn_more {w wr : World} (h : ∃ n, wr = w.drewN n) (m : Nat) : ∃ n, wr.drewN m = w.drewN n := by
  obtain ⟨n, rfl⟩ := h
  exact ⟨_, World.drewN_drewN _ _ _⟩

set_option maxHeartbeats 1000000 in
theorem allAtMost_any (a0 a1 a2 a3 : Option Addr) (len k0 k1 l2 k2 k3 : Nat) (p c p2 c2 : Nat → Int) (w : World) (h0 : RowOf w a0 len (ints p)) (h1 : RowOf w a1 len (cnts c)) (h2 : RowOf w a2 l2 (ints p2)) (h3 : RowOf w a3 l2 (cnts c2)) (hl : len ≤ 4096) (hl2 : l2 ≤ 4096) :
    Calls Try.prog 13 #[.slice a0 len k0, .slice a1 len k1, .slice a2 l2 k2, .slice a3 l2 k3] w fun e w' => e = .returned (.bool (allAt p c p2 c2 l2 len 0)) ∧ ∃ n, w' = w.drewN n := by
  have H11 : ∀ q n, Calls Try.prog 11 #[.slice a2 l2 k2, .slice a3 l2 k3, .int .i64 q] (w.drewN n) fun e w' => e = .returned (.int .u64 (cAt p2 c2 l2 0 q)) ∧ w' = w.drewN n := fun q n => counterAt_any a2 a3 l2 k2 l2 k3 p2 c2 q (w.drewN n) h2 h3 (by omega) (by omega) (by omega)
  clear h2 h3
  go_enter Try.func13, Try.ntmps13
  go_wp2
  go_loopw [9] (fun i wr => ∃ k : Nat, k ≤ len ∧ i = .int .i64 k ∧ Hid (allAt p c p2 c2 l2 len 0 = allAt p c p2 c2 l2 (len - k) k) ∧ ∃ n, wr = w.drewN n) (fun i _ => len - (intOf i).toNat)
  case atStart => exact ⟨0, Nat.zero_le _, rfl, rfl, 0, rfl⟩
  case round =>
    obtain ⟨k, hk, rfl, HI, n, hwr⟩ := hrel
    have HW : Hid (∃ n, wr = w.drewN n) := ⟨n, hwr⟩
    by_cases hlt : k < len
    · obtain ⟨b, off, rfl, hcp⟩ := h0 k hlt
      obtain ⟨b2, off2, rfl, hcc⟩ := h1 k hlt
      have hcp' : wr.cell? ⟨b, off + k, none⟩ = some (.int .i64 (p k)) := by rw [hwr]; exact hcp
      have hcc' : wr.cell? ⟨b2, off2 + k, none⟩ = some (.int .u64 (c k)) := by rw [hwr]; exact hcc
      have hs : len - k = (len - (k + 1)) + 1 := by omega
      have HS : Hid (allAt p c p2 c2 l2 (len - k) k = if cAt p2 c2 l2 0 (p k) < c k then false else allAt p c p2 c2 l2 (len - (k + 1)) (k + 1)) := by
        show _ = _
        rw [hs]; rfl
      have H : ∀ m, Calls Try.prog 11 #[.slice a2 l2 k2, .slice a3 l2 k3, .int .i64 (p k)] (wr.drewN m) fun e w' => e = .returned (.int .u64 (cAt p2 c2 l2 0 (p k))) ∧ w' = wr.drewN m := by
        intro m
        rw [hwr, World.drewN_drewN]
        exact H11 (p k) (n + m)
      clear hcp hcc hs h0 h1 H11 hwr
      generalize hpk : p k = pk at hcp' HS H
      generalize hck : c k = ck at hcc' HS
      generalize hq : cAt p2 c2 l2 0 pk = q at HS H
      clear hpk hck hq
      by_cases hgt : q < ck
      · have HR : Hid (allAt p c p2 c2 l2 len 0 = false) := by
          show _ = _
          rw [HI.out, HS.out, if_pos hgt]
        clear HI HS
        go_wp2_with fail
        go_quiet ((go_at_call 11; exact Calls.quiet_of_same (H _)))
        go_wp2
        go_ret
        exact ⟨ret_bool HR.out.symm, drawn_more HW.out _⟩
      · have HR : Hid (allAt p c p2 c2 l2 len 0 = allAt p c p2 c2 l2 (len - (k + 1)) (k + 1)) := by
          show _ = _
          rw [HI.out, HS.out, if_neg hgt]
        clear HI HS
        go_wp2_with fail
        go_quiet ((go_at_call 11; exact Calls.quiet_of_same (H _)))
        go_wp2
        go_roundw
        case rel => exact ⟨k + 1, by omega, by go_num, HR, drawn_more HW.out _⟩
        case measure => simp [intOf]; omega
    · have HR : Hid (allAt p c p2 c2 l2 len 0 = true) := by
        show _ = _
        rw [HI.out, show len - k = 0 by omega]
        rfl
      clear HI h0 h1 H11 hwr
      go_wp2
      go_ret
      exact ⟨ret_bool HR.out.symm, HW.out⟩

set_option maxHeartbeats 1000000 in
theorem dense_any (a0 a1 a2 a3 : Option Addr) (len k0 k1 l2 k2 k3 : Nat) (p c p2 c2 : Nat → Int) (w : World) (h0 : RowOf w a0 len (ints p)) (h1 : RowOf w a1 len (cnts c)) (h2 : RowOf w a2 l2 (ints p2)) (h3 : RowOf w a3 l2 (cnts c2)) (hl : len ≤ 4096) (hl2 : l2 ≤ 4096) :
    Calls Try.prog 7 #[.slice a0 len k0, .slice a1 len k1, .slice a2 l2 k2, .slice a3 l2 k3] w fun e w' => e = .returned (.int .i64 (denseF (allAt p c p2 c2 l2 len 0) (allAt p2 c2 p c len l2 0))) ∧ ∃ n, w' = w.drewN n := by
  have H1 := allAtMost_any a0 a1 a2 a3 len k0 k1 l2 k2 k3 p c p2 c2 w h0 h1 h2 h3 hl hl2
  have H2 : ∀ n, _ := fun n => allAtMost_any a2 a3 a0 a1 l2 k2 k3 len k0 k1 p2 c2 p c (w.drewN n) h2 h3 h0 h1 hl2 hl
  clear h0 h1 h2 h3
  generalize allAt p c p2 c2 l2 len 0 = x at H1 ⊢
  generalize allAt p2 c2 p c len l2 0 = y at H2 ⊢
  go_enter Try.func7, Try.ntmps7
  go_wp2_with fail
  refine H1.mono ?_
  rintro e w' ⟨rfl, n, rfl⟩
  go_wp2_with fail
  refine (H2 n).mono ?_
  rintro e w' ⟨rfl, n2, rfl⟩
  cases x <;> cases y <;> (go_wp2; go_ret; exact ⟨rfl, _, by first | rfl | exact World.drewN_drewN _ _ _⟩)

end Go.Proofs.Qxb6623506a
