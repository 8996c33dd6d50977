/-
  zzWellFormed (6), zzCounterAt (11), zzMirror (9), zzBytes (5, 10).
-/
import Derived.Test.Qxb6623506aRows
import Derived.Test.Qxb6623506aPlain
import Derived.WalkKit
import Derived.WalkSpells
import Derived.WalkLawsBesides
import Derived.Deep.QuietTactic
import Derived.BigQuiet
namespace Go.Proofs.Qxb6623506a
open Go.RowKit
set_option linter.unusedVariables false

/-- The cells of a slice that is only read. -/
def RowOf (w : World) (a : Option Addr) (len : Nat) (f : Nat → Value) : Prop :=
  ∀ i, i < len → ∃ b off, a = some ⟨b, off, none⟩ ∧ w.cell? ⟨b, off + i, none⟩ = some (f i)

theorem cell_lt {w : World} {a : Addr} {v : Value} (h : w.cell? a = some v) : a.block < w.heap.size := by
  apply Classical.byContradiction
  intro hn
  have e : w.heap[a.block]? = none := Array.getElem?_eq_none (by omega)
  simp [World.cell?, e] at h

theorem RowOf.below {w w' : World} {a : Option Addr} {len : Nat} {f : Nat → Value} (h : RowOf w a len f) (hb : Below w.heap.size w w') : RowOf w' a len f := by
  intro i hi
  obtain ⟨b, off, e, hc⟩ := h i hi
  exact ⟨b, off, e, (hb.cell (p := ⟨b, off + i, none⟩) (cell_lt hc)).trans hc⟩
theorem RowOf.drewN {w : World} {a : Option Addr} {len : Nat} {f : Nat → Value} (h : RowOf w a len f) (n : Nat) : RowOf (w.drewN n) a len f := h
theorem RowOf.drew {w : World} {a : Option Addr} {len : Nat} {f : Nat → Value} (h : RowOf w a len f) : RowOf w.drew a len f := h

theorem ret_int {k : IntKind} {a b : Int} (h : a = b) : Ending.returned (.int k a) = .returned (.int k b) := by rw [h]

def ints (p : Nat → Int) : Nat → Value := fun i => .int .i64 (p i)
def cnts (c : Nat → Int) : Nat → Value := fun i => .int .u64 (c i)

/-- Some bool comes back. -/
def RetB (e : Ending) : Prop := ∃ b, e = .returned (.bool b)

set_option maxHeartbeats 1000000 in
theorem bytesD_any (a0 a1 a2 a3 : Option Addr) (l0 c0 l1 c1 l2 c2 l3 c3 : Nat) (w : World) (m0 : l0 ≤ maxLen) (m1 : l1 ≤ maxLen) (m2 : l2 ≤ maxLen) (m3 : l3 ≤ maxLen) :
    Calls Try.prog 5 #[.slice a0 l0 c0, .slice a1 l1 c1, .slice a2 l2 c2, .slice a3 l3 c3] w fun e w' => RetB e ∧ w' = w := by
  unfold maxLen at m0 m1 m2 m3
  go_enter Try.func5, Try.ntmps5
  go_wp2
  all_goals (go_ret; exact ⟨⟨_, rfl⟩, rfl⟩)

set_option maxHeartbeats 1000000 in
theorem bytesR_any (a0 a1 : Option Addr) (l0 c0 l1 c1 : Nat) (q d : Int) (w : World) (m0 : l0 ≤ maxLen) (m1 : l1 ≤ maxLen) :
    Calls Try.prog 10 #[.slice a0 l0 c0, .slice a1 l1 c1, .int .i64 q, .int .u64 d] w fun e w' => RetB e ∧ w' = w := by
  unfold maxLen at m0 m1
  go_enter Try.func10, Try.ntmps10
  go_wp2
  all_goals (go_ret; exact ⟨⟨_, rfl⟩, rfl⟩)

set_option maxHeartbeats 1000000 in
theorem mirror_any (o : Int) (w : World) : Calls Try.prog 9 #[.int .i64 o] w fun e w' => e = .returned (.int .i64 (mirrorF o)) ∧ w' = w := by
  by_cases h0 : o = 0
  · subst h0
    go_enter Try.func9, Try.ntmps9
    go_wp2
    go_ret
    exact ⟨rfl, rfl⟩
  · by_cases h1 : o = 1
    · subst h1
      go_enter Try.func9, Try.ntmps9
      go_wp2
      go_ret
      exact ⟨rfl, rfl⟩
    · have e : mirrorF o = o := by simp [mirrorF, h0, h1]
      rw [e]
      have b0 : (o == 0) = false := by simpa using h0
      have b1 : (o == 1) = false := by simpa using h1
      go_enter Try.func9, Try.ntmps9
      go_wp2
      go_ret
      exact ⟨rfl, rfl⟩

/-- The counter of q among the first n of (p, c). -/
def cAt (p c : Nat → Int) : Nat → Nat → Int → Int
  | 0, _, _ => 0
  | n + 1, i, q => if p i = q then c i else cAt p c n (i + 1) q

set_option maxHeartbeats 1000000 in
theorem counterAt_any (ap ac : Option Addr) (len cp lc cc : Nat) (p c : Nat → Int) (q : Int) (w : World) (hp : RowOf w ap len (ints p)) (hc : RowOf w ac lc (cnts c)) (hl : len ≤ 4098) (hlc : len ≤ lc) (hlc2 : lc ≤ 4098) :
    Calls Try.prog 11 #[.slice ap len cp, .slice ac lc cc, .int .i64 q] w fun e w' => e = .returned (.int .u64 (cAt p c len 0 q)) ∧ w' = w := by
  go_enter Try.func11, Try.ntmps11
  go_wp2
  go_loop [7] (fun i => ∃ k : Nat, k ≤ len ∧ i = .int .i64 k ∧ Hid (cAt p c len 0 q = cAt p c (len - k) k q)) (fun i => len - (intOf i).toNat)
  case atStart => exact ⟨0, Nat.zero_le _, rfl, rfl⟩
  case round =>
    obtain ⟨k, hk, rfl, HI⟩ := hrel
    by_cases hlt : k < len
    · obtain ⟨b, off, rfl, hcp⟩ := hp k hlt
      obtain ⟨b2, off2, rfl, hcc⟩ := hc k (by omega)
      have hlt2 : k < lc := by omega
      have hs : len - k = (len - (k + 1)) + 1 := by omega
      have H1 : Hid (cAt p c (len - k) k q = if p k = q then c k else cAt p c (len - (k + 1)) (k + 1) q) := by
        show cAt p c (len - k) k q = _
        rw [hs]; rfl
      have hcp' : w.cell? ⟨b, off + k, none⟩ = some (.int .i64 (p k)) := hcp
      have hcc' : w.cell? ⟨b2, off2 + k, none⟩ = some (.int .u64 (c k)) := hcc
      clear hcp hcc hs
      generalize hpk : p k = pk at hcp' H1
      generalize hck : c k = ck at hcc' H1
      clear hpk hck
      by_cases he : pk = q
      · have hb : (pk == q) = true := by simpa using he
        have HR : Hid (cAt p c len 0 q = ck) := by
          show cAt p c len 0 q = ck
          rw [HI.out, H1.out, if_pos he]
        clear HI H1 he
        go_wp2
        go_ret
        exact ⟨ret_int HR.out.symm, rfl⟩
      · have hb : (pk == q) = false := by simpa using he
        have HR : Hid (cAt p c len 0 q = cAt p c (len - (k + 1)) (k + 1) q) := by
          show cAt p c len 0 q = _
          rw [HI.out, H1.out, if_neg he]
        clear HI H1 he
        go_wp2
        go_round
        case rel => exact ⟨k + 1, by omega, by go_num, HR⟩
        case measure => simp [intOf]; omega
    · have HR : Hid (cAt p c len 0 q = 0) := by
        show cAt p c len 0 q = 0
        rw [HI.out, show len - k = 0 by omega]
        rfl
      clear HI
      go_wp2
      go_ret
      exact ⟨ret_int HR.out.symm, rfl⟩

theorem wrap_small (y : Int) (h : 0 ≤ y) (h2 : y < 4096) : IntKind.i64.wrap y = y := by
  simp [IntKind.wrap, IntKind.bits, IntKind.signed]
  omega

/-- What zzWellFormed asks. -/
def WF (p c : Nat → Int) (n : Nat) : Prop := (∀ i, i < n → c i ≠ 0) ∧ ∀ i, 0 < i → i < n → p (i - 1) < p i

set_option maxHeartbeats 1000000 in
theorem wf_any (ap ac : Option Addr) (len cp lc cc : Nat) (p c : Nat → Int) (w : World) (hp : RowOf w ap len (ints p)) (hc : RowOf w ac lc (cnts c)) (hl : len ≤ 4096) (hlc2 : lc ≤ 4096) :
    Calls Try.prog 6 #[.slice ap len cp, .slice ac lc cc] w fun e w' => (∃ b : Bool, e = .returned (.bool b) ∧ Hid (b = true → len = lc ∧ WF p c len)) ∧ ∃ n, w' = w.drewN n := by
  by_cases hll : len = lc
  · subst hll
    go_enter Try.func6, Try.ntmps6
    go_wp2
    go_loopw [5] (fun i wr => ∃ k : Nat, k ≤ len ∧ i = .int .i64 k ∧ Hid (WF p c k) ∧ ∃ n, wr = w.drewN n) (fun i _ => len - (intOf i).toNat)
    case atStart => exact ⟨0, Nat.zero_le _, rfl, ⟨fun i hi => absurd hi (Nat.not_lt_zero _), fun i _ hi => absurd hi (Nat.not_lt_zero _)⟩, 0, rfl⟩
    case round =>
      obtain ⟨k, hk, rfl, HW, n, rfl⟩ := hrel
      by_cases hlt : k < len
      · obtain ⟨b, off, rfl, hcp⟩ := hp k hlt
        obtain ⟨b2, off2, rfl, hcc⟩ := hc k hlt
        have hcp' : w.cell? ⟨b, off + k, none⟩ = some (.int .i64 (p k)) := hcp
        have hcc' : w.cell? ⟨b2, off2 + k, none⟩ = some (.int .u64 (c k)) := hcc
        by_cases h0 : c k = 0
        · rw [h0] at hcc'
          clear hcp hcc hcp' hp hc HW h0
          go_wp2
          go_ret
          exact ⟨⟨false, rfl, fun h => by cases h⟩, _, rfl⟩
        · have h0b : (c k == 0) = false := by simpa using h0
          by_cases hk0 : k = 0
          · subst hk0
            have HW1 : Hid (WF p c (0 + 1)) := ⟨fun i hi => by
                have e : i = 0 := by omega
                rw [e]
                exact h0, fun i hi hi2 => by omega⟩
            have hcp0 : w.cell? ⟨b, off, none⟩ = some (.int .i64 (p 0)) := hcp
            have hcc0 : w.cell? ⟨b2, off2, none⟩ = some (.int .u64 (c 0)) := hcc
            have hlt0 : (0 : Int) < (len : Int) := by omega
            clear hcp hcc hcp' hcc' hp hc HW h0
            rw [show ((0 : Nat) : Int) = (0 : Int) from rfl]
            go_wp2
            go_quiet (fail)
            go_wp2
            go_roundw
            case rel => exact ⟨0 + 1, by omega, by go_num, HW1, _, rfl⟩
            case measure => simp [intOf]; omega
          · obtain ⟨b3, off3, e3, hcq⟩ := hp (k - 1) (by omega)
            cases e3
            obtain ⟨z, HZ⟩ : ∃ z : Int, Hid (z = (k : Int)) := ⟨_, rfl⟩
            have hcp2 : w.cell? ⟨b, off + z.toNat, none⟩ = some (.int .i64 (p k)) := by
              rw [show z.toNat = k by have := HZ.out; omega]; exact hcp
            have hcc2 : w.cell? ⟨b2, off2 + z.toNat, none⟩ = some (.int .u64 (c k)) := by
              rw [show z.toNat = k by have := HZ.out; omega]; exact hcc
            obtain ⟨y, HY⟩ : ∃ y : Int, Hid (y = (k : Int) - 1) := ⟨_, rfl⟩
            have hcq2 : w.cell? ⟨b, off + y.toNat, none⟩ = some (.int .i64 (p (k - 1))) := by
              rw [show y.toNat = k - 1 by have := HY.out; omega]; exact hcq
            have hwr : IntKind.i64.wrap (z - 1) = y := by
              have h1 := HZ.out
              have h2 := HY.out
              rw [show z - 1 = y by omega]
              exact wrap_small y (by omega) (by omega)
            have z1 : 0 < z := by have := HZ.out; omega
            have z2 : z < (len : Int) := by have := HZ.out; omega
            have z3 : y < (len : Int) := by have := HY.out; omega
            have z4 : 0 ≤ y := by have := HY.out; omega
            have z5 : 0 ≤ z := by omega
            rw [← HZ.out]
            by_cases hpp : p (k - 1) < p k
            · have HW1 : Hid (WF p c (k + 1)) := ⟨fun i hi => by
                  by_cases hik : i = k
                  · rw [hik]; exact h0
                  · exact HW.out.1 i (by omega), fun i hi hi2 => by
                  by_cases hik : i = k
                  · rw [hik]; exact hpp
                  · exact HW.out.2 i hi (by omega)⟩
              clear hcp hcc hcq hp hc HW h0 hcp' hcc'
              generalize p (k - 1) = pq at *
              generalize p k = pk at *
              go_wp2
              go_quiet (fail)
              go_wp2
              go_roundw
              case rel => exact ⟨k + 1, by omega, by rw [HZ.out]; go_num, HW1, _, rfl⟩
              case measure =>
                have := HZ.out
                simp [intOf]
                omega
            · clear hcp hcc hcq hp hc HW h0 hcp' hcc'
              generalize p (k - 1) = pq at *
              generalize p k = pk at *
              go_wp2
              go_quiet (fail)
              go_wp2
              go_ret
              exact ⟨⟨false, rfl, fun h => by cases h⟩, _, World.drewN_drewN _ _ _⟩
      · go_wp2
        go_ret
        have e : k = len := by omega
        exact ⟨⟨true, rfl, fun _ => ⟨trivial, by rw [← e]; exact HW⟩⟩, _, rfl⟩
  · have hb : ((len : Int) != (lc : Int)) = true := by simp; omega
    go_enter Try.func6, Try.ntmps6
    go_wp2
    go_ret
    exact ⟨⟨false, rfl, fun h => by cases h⟩, 0, rfl⟩

end Go.Proofs.Qxb6623506a
