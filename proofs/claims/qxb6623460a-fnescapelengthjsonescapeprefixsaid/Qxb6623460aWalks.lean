/-
  isDigit, isHex (10), zzHexValue (9), zzShortEscape (8), escapeLength (7), ZZescapeLength (5), zzEscapeModel (6).
-/
import Derived.Test.Qxb6623460aRows
import Derived.Test.Qxb6623460aPlain
import Derived.WalkKit
import Derived.WalkSpells
import Derived.WalkLawsBesides
namespace Go.Proofs.Qxb6623460a
open Go.RowKit
set_option linter.unusedVariables false

theorem ret_int {k : IntKind} {a b : Int} (h : a = b) : Ending.returned (.int k a) = .returned (.int k b) := by rw [h]
theorem ret_bool {a b : Bool} (h : a = b) : Ending.returned (.bool a) = .returned (.bool b) := by rw [h]

theorem hexN_iff (n : Int) : hexN n = true ↔ (48 ≤ n ∧ n ≤ 57) ∨ (97 ≤ n ∧ n ≤ 102) ∨ (65 ≤ n ∧ n ≤ 70) := by simp [hexN]
theorem shortN_iff (n : Int) : shortN n = true ↔ n = 34 ∨ n = 92 ∨ n = 47 ∨ n = 98 ∨ n = 102 ∨ n = 110 ∨ n = 114 ∨ n = 116 := by simp [shortN]

set_option maxHeartbeats 400000 in
theorem isHex_any (n : Int) (w : World) : Calls Try.prog 10 #[.int .u8 n] w fun e w' => e = .returned (.bool (hexN n)) ∧ w' = w := by
  go_enter Try.func10, Try.ntmps10
  go_wp2
  all_goals
    go_ret
    refine ⟨ret_bool ?_, rfl⟩
    rw [Bool.eq_iff_iff, hexN_iff]
    simp
    omega

theorem or32 (n : Int) (h0 : 0 ≤ n) (h1 : n ≤ 255) : 0 ≤ Go.bits .or .u8 n 32 ∧ Go.bits .or .u8 n 32 ≤ 255 ∧ (97 ≤ Go.bits .or .u8 n 32 ∧ Go.bits .or .u8 n 32 ≤ 102 ↔ (97 ≤ n ∧ n ≤ 102) ∨ (65 ≤ n ∧ n ≤ 70)) := by
  obtain ⟨k, rfl⟩ := Int.eq_ofNat_of_zero_le h0
  have hk : k < 256 := by omega
  have key : ∀ k : Fin 256, 0 ≤ Go.bits .or .u8 (k.val : Int) 32 ∧ Go.bits .or .u8 (k.val : Int) 32 ≤ 255 ∧ (97 ≤ Go.bits .or .u8 (k.val : Int) 32 ∧ Go.bits .or .u8 (k.val : Int) 32 ≤ 102 ↔ (97 ≤ (k.val : Int) ∧ (k.val : Int) ≤ 102) ∨ (65 ≤ (k.val : Int) ∧ (k.val : Int) ≤ 70)) := by decide +kernel
  exact key ⟨k, hk⟩

/-- Is d the value of the hexadecimal digit n, or negative where n is none? -/
def HexV (n d : Int) : Prop := (hexN n = true → 0 ≤ d ∧ d ≤ 15) ∧ (hexN n = false → d < 0)

theorem hexV_mk {n d : Int} (h1 : (48 ≤ n ∧ n ≤ 57) ∨ (97 ≤ n ∧ n ≤ 102) ∨ (65 ≤ n ∧ n ≤ 70) → 0 ≤ d ∧ d ≤ 15) (h2 : ¬ ((48 ≤ n ∧ n ≤ 57) ∨ (97 ≤ n ∧ n ≤ 102) ∨ (65 ≤ n ∧ n ≤ 70)) → d < 0) : HexV n d :=
  ⟨fun h => h1 ((hexN_iff n).1 h), fun h => h2 (fun hc => by rw [(hexN_iff n).2 hc] at h; cases h)⟩

set_option maxHeartbeats 400000 in
theorem hexV_any (n : Int) (w : World) (h0 : 0 ≤ n) (h1 : n ≤ 255) : Calls Try.prog 9 #[.int .u8 n] w fun e w' => (∃ d, e = .returned (.int .i64 d) ∧ HexV n d) ∧ w' = w := by
  have ho := or32 n h0 h1
  generalize hl : Go.bits .or .u8 n 32 = l at ho
  obtain ⟨o0, o1, o2⟩ := ho
  have O : Hid (97 ≤ l ∧ l ≤ 102 ↔ (97 ≤ n ∧ n ≤ 102) ∨ (65 ≤ n ∧ n ≤ 70)) := o2
  clear o2
  go_enter Try.func9, Try.ntmps9
  go_wp2
  all_goals
    go_ret
    refine ⟨⟨_, rfl, ?_⟩, rfl⟩
    have o := O.out
    exact hexV_mk (by omega) (by omega)

theorem beq_ne {n v : Int} (h : ¬ n = v) : (v == n) = false := by
  simp
  omega

set_option maxHeartbeats 1000000 in
theorem short_34 (w : World) : Calls Try.prog 8 #[.int .u8 34] w fun e w' => (∃ x, e = .returned (.tuple #[.int .u8 x, .bool true])) ∧ w' = w := by
  have p0 : ∀ h, ((({ data := #[34, 34, 92, 92, 47, 47, 98, 8, 102, 12, 110, 10, 114, 13, 116, 9] } : ByteArray)[0]'h).toNat : Int) = 34 := fun _ => rfl
  have p2 : ∀ h, ((({ data := #[34, 34, 92, 92, 47, 47, 98, 8, 102, 12, 110, 10, 114, 13, 116, 9] } : ByteArray)[2]'h).toNat : Int) = 92 := fun _ => rfl
  have p4 : ∀ h, ((({ data := #[34, 34, 92, 92, 47, 47, 98, 8, 102, 12, 110, 10, 114, 13, 116, 9] } : ByteArray)[4]'h).toNat : Int) = 47 := fun _ => rfl
  have p6 : ∀ h, ((({ data := #[34, 34, 92, 92, 47, 47, 98, 8, 102, 12, 110, 10, 114, 13, 116, 9] } : ByteArray)[6]'h).toNat : Int) = 98 := fun _ => rfl
  have p8 : ∀ h, ((({ data := #[34, 34, 92, 92, 47, 47, 98, 8, 102, 12, 110, 10, 114, 13, 116, 9] } : ByteArray)[8]'h).toNat : Int) = 102 := fun _ => rfl
  have p10 : ∀ h, ((({ data := #[34, 34, 92, 92, 47, 47, 98, 8, 102, 12, 110, 10, 114, 13, 116, 9] } : ByteArray)[10]'h).toNat : Int) = 110 := fun _ => rfl
  have p12 : ∀ h, ((({ data := #[34, 34, 92, 92, 47, 47, 98, 8, 102, 12, 110, 10, 114, 13, 116, 9] } : ByteArray)[12]'h).toNat : Int) = 114 := fun _ => rfl
  have p14 : ∀ h, ((({ data := #[34, 34, 92, 92, 47, 47, 98, 8, 102, 12, 110, 10, 114, 13, 116, 9] } : ByteArray)[14]'h).toNat : Int) = 116 := fun _ => rfl
  go_enter Try.func8, Try.ntmps8
  go_wp2
  refine wp_loop_rounds 1 ?_
  rw [rounds_succ]
  go_wp2
  go_ret2
  exact ⟨⟨_, rfl⟩, rfl⟩

set_option maxHeartbeats 1000000 in
theorem short_92 (w : World) : Calls Try.prog 8 #[.int .u8 92] w fun e w' => (∃ x, e = .returned (.tuple #[.int .u8 x, .bool true])) ∧ w' = w := by
  have p0 : ∀ h, ((({ data := #[34, 34, 92, 92, 47, 47, 98, 8, 102, 12, 110, 10, 114, 13, 116, 9] } : ByteArray)[0]'h).toNat : Int) = 34 := fun _ => rfl
  have p2 : ∀ h, ((({ data := #[34, 34, 92, 92, 47, 47, 98, 8, 102, 12, 110, 10, 114, 13, 116, 9] } : ByteArray)[2]'h).toNat : Int) = 92 := fun _ => rfl
  have p4 : ∀ h, ((({ data := #[34, 34, 92, 92, 47, 47, 98, 8, 102, 12, 110, 10, 114, 13, 116, 9] } : ByteArray)[4]'h).toNat : Int) = 47 := fun _ => rfl
  have p6 : ∀ h, ((({ data := #[34, 34, 92, 92, 47, 47, 98, 8, 102, 12, 110, 10, 114, 13, 116, 9] } : ByteArray)[6]'h).toNat : Int) = 98 := fun _ => rfl
  have p8 : ∀ h, ((({ data := #[34, 34, 92, 92, 47, 47, 98, 8, 102, 12, 110, 10, 114, 13, 116, 9] } : ByteArray)[8]'h).toNat : Int) = 102 := fun _ => rfl
  have p10 : ∀ h, ((({ data := #[34, 34, 92, 92, 47, 47, 98, 8, 102, 12, 110, 10, 114, 13, 116, 9] } : ByteArray)[10]'h).toNat : Int) = 110 := fun _ => rfl
  have p12 : ∀ h, ((({ data := #[34, 34, 92, 92, 47, 47, 98, 8, 102, 12, 110, 10, 114, 13, 116, 9] } : ByteArray)[12]'h).toNat : Int) = 114 := fun _ => rfl
  have p14 : ∀ h, ((({ data := #[34, 34, 92, 92, 47, 47, 98, 8, 102, 12, 110, 10, 114, 13, 116, 9] } : ByteArray)[14]'h).toNat : Int) = 116 := fun _ => rfl
  go_enter Try.func8, Try.ntmps8
  go_wp2
  refine wp_loop_rounds 2 ?_
  rw [rounds_succ]
  go_wp2
  rw [rounds_succ]
  go_wp2
  go_ret2
  exact ⟨⟨_, rfl⟩, rfl⟩

set_option maxHeartbeats 1000000 in
theorem short_47 (w : World) : Calls Try.prog 8 #[.int .u8 47] w fun e w' => (∃ x, e = .returned (.tuple #[.int .u8 x, .bool true])) ∧ w' = w := by
  have p0 : ∀ h, ((({ data := #[34, 34, 92, 92, 47, 47, 98, 8, 102, 12, 110, 10, 114, 13, 116, 9] } : ByteArray)[0]'h).toNat : Int) = 34 := fun _ => rfl
  have p2 : ∀ h, ((({ data := #[34, 34, 92, 92, 47, 47, 98, 8, 102, 12, 110, 10, 114, 13, 116, 9] } : ByteArray)[2]'h).toNat : Int) = 92 := fun _ => rfl
  have p4 : ∀ h, ((({ data := #[34, 34, 92, 92, 47, 47, 98, 8, 102, 12, 110, 10, 114, 13, 116, 9] } : ByteArray)[4]'h).toNat : Int) = 47 := fun _ => rfl
  have p6 : ∀ h, ((({ data := #[34, 34, 92, 92, 47, 47, 98, 8, 102, 12, 110, 10, 114, 13, 116, 9] } : ByteArray)[6]'h).toNat : Int) = 98 := fun _ => rfl
  have p8 : ∀ h, ((({ data := #[34, 34, 92, 92, 47, 47, 98, 8, 102, 12, 110, 10, 114, 13, 116, 9] } : ByteArray)[8]'h).toNat : Int) = 102 := fun _ => rfl
  have p10 : ∀ h, ((({ data := #[34, 34, 92, 92, 47, 47, 98, 8, 102, 12, 110, 10, 114, 13, 116, 9] } : ByteArray)[10]'h).toNat : Int) = 110 := fun _ => rfl
  have p12 : ∀ h, ((({ data := #[34, 34, 92, 92, 47, 47, 98, 8, 102, 12, 110, 10, 114, 13, 116, 9] } : ByteArray)[12]'h).toNat : Int) = 114 := fun _ => rfl
  have p14 : ∀ h, ((({ data := #[34, 34, 92, 92, 47, 47, 98, 8, 102, 12, 110, 10, 114, 13, 116, 9] } : ByteArray)[14]'h).toNat : Int) = 116 := fun _ => rfl
  go_enter Try.func8, Try.ntmps8
  go_wp2
  refine wp_loop_rounds 3 ?_
  rw [rounds_succ]
  go_wp2
  rw [rounds_succ]
  go_wp2
  rw [rounds_succ]
  go_wp2
  go_ret2
  exact ⟨⟨_, rfl⟩, rfl⟩

set_option maxHeartbeats 1000000 in
theorem short_98 (w : World) : Calls Try.prog 8 #[.int .u8 98] w fun e w' => (∃ x, e = .returned (.tuple #[.int .u8 x, .bool true])) ∧ w' = w := by
  have p0 : ∀ h, ((({ data := #[34, 34, 92, 92, 47, 47, 98, 8, 102, 12, 110, 10, 114, 13, 116, 9] } : ByteArray)[0]'h).toNat : Int) = 34 := fun _ => rfl
  have p2 : ∀ h, ((({ data := #[34, 34, 92, 92, 47, 47, 98, 8, 102, 12, 110, 10, 114, 13, 116, 9] } : ByteArray)[2]'h).toNat : Int) = 92 := fun _ => rfl
  have p4 : ∀ h, ((({ data := #[34, 34, 92, 92, 47, 47, 98, 8, 102, 12, 110, 10, 114, 13, 116, 9] } : ByteArray)[4]'h).toNat : Int) = 47 := fun _ => rfl
  have p6 : ∀ h, ((({ data := #[34, 34, 92, 92, 47, 47, 98, 8, 102, 12, 110, 10, 114, 13, 116, 9] } : ByteArray)[6]'h).toNat : Int) = 98 := fun _ => rfl
  have p8 : ∀ h, ((({ data := #[34, 34, 92, 92, 47, 47, 98, 8, 102, 12, 110, 10, 114, 13, 116, 9] } : ByteArray)[8]'h).toNat : Int) = 102 := fun _ => rfl
  have p10 : ∀ h, ((({ data := #[34, 34, 92, 92, 47, 47, 98, 8, 102, 12, 110, 10, 114, 13, 116, 9] } : ByteArray)[10]'h).toNat : Int) = 110 := fun _ => rfl
  have p12 : ∀ h, ((({ data := #[34, 34, 92, 92, 47, 47, 98, 8, 102, 12, 110, 10, 114, 13, 116, 9] } : ByteArray)[12]'h).toNat : Int) = 114 := fun _ => rfl
  have p14 : ∀ h, ((({ data := #[34, 34, 92, 92, 47, 47, 98, 8, 102, 12, 110, 10, 114, 13, 116, 9] } : ByteArray)[14]'h).toNat : Int) = 116 := fun _ => rfl
  go_enter Try.func8, Try.ntmps8
  go_wp2
  refine wp_loop_rounds 4 ?_
  rw [rounds_succ]
  go_wp2
  rw [rounds_succ]
  go_wp2
  rw [rounds_succ]
  go_wp2
  rw [rounds_succ]
  go_wp2
  go_ret2
  exact ⟨⟨_, rfl⟩, rfl⟩

set_option maxHeartbeats 1000000 in
theorem short_102 (w : World) : Calls Try.prog 8 #[.int .u8 102] w fun e w' => (∃ x, e = .returned (.tuple #[.int .u8 x, .bool true])) ∧ w' = w := by
  have p0 : ∀ h, ((({ data := #[34, 34, 92, 92, 47, 47, 98, 8, 102, 12, 110, 10, 114, 13, 116, 9] } : ByteArray)[0]'h).toNat : Int) = 34 := fun _ => rfl
  have p2 : ∀ h, ((({ data := #[34, 34, 92, 92, 47, 47, 98, 8, 102, 12, 110, 10, 114, 13, 116, 9] } : ByteArray)[2]'h).toNat : Int) = 92 := fun _ => rfl
  have p4 : ∀ h, ((({ data := #[34, 34, 92, 92, 47, 47, 98, 8, 102, 12, 110, 10, 114, 13, 116, 9] } : ByteArray)[4]'h).toNat : Int) = 47 := fun _ => rfl
  have p6 : ∀ h, ((({ data := #[34, 34, 92, 92, 47, 47, 98, 8, 102, 12, 110, 10, 114, 13, 116, 9] } : ByteArray)[6]'h).toNat : Int) = 98 := fun _ => rfl
  have p8 : ∀ h, ((({ data := #[34, 34, 92, 92, 47, 47, 98, 8, 102, 12, 110, 10, 114, 13, 116, 9] } : ByteArray)[8]'h).toNat : Int) = 102 := fun _ => rfl
  have p10 : ∀ h, ((({ data := #[34, 34, 92, 92, 47, 47, 98, 8, 102, 12, 110, 10, 114, 13, 116, 9] } : ByteArray)[10]'h).toNat : Int) = 110 := fun _ => rfl
  have p12 : ∀ h, ((({ data := #[34, 34, 92, 92, 47, 47, 98, 8, 102, 12, 110, 10, 114, 13, 116, 9] } : ByteArray)[12]'h).toNat : Int) = 114 := fun _ => rfl
  have p14 : ∀ h, ((({ data := #[34, 34, 92, 92, 47, 47, 98, 8, 102, 12, 110, 10, 114, 13, 116, 9] } : ByteArray)[14]'h).toNat : Int) = 116 := fun _ => rfl
  go_enter Try.func8, Try.ntmps8
  go_wp2
  refine wp_loop_rounds 5 ?_
  rw [rounds_succ]
  go_wp2
  rw [rounds_succ]
  go_wp2
  rw [rounds_succ]
  go_wp2
  rw [rounds_succ]
  go_wp2
  rw [rounds_succ]
  go_wp2
  go_ret2
  exact ⟨⟨_, rfl⟩, rfl⟩

set_option maxHeartbeats 1000000 in
theorem short_110 (w : World) : Calls Try.prog 8 #[.int .u8 110] w fun e w' => (∃ x, e = .returned (.tuple #[.int .u8 x, .bool true])) ∧ w' = w := by
  have p0 : ∀ h, ((({ data := #[34, 34, 92, 92, 47, 47, 98, 8, 102, 12, 110, 10, 114, 13, 116, 9] } : ByteArray)[0]'h).toNat : Int) = 34 := fun _ => rfl
  have p2 : ∀ h, ((({ data := #[34, 34, 92, 92, 47, 47, 98, 8, 102, 12, 110, 10, 114, 13, 116, 9] } : ByteArray)[2]'h).toNat : Int) = 92 := fun _ => rfl
  have p4 : ∀ h, ((({ data := #[34, 34, 92, 92, 47, 47, 98, 8, 102, 12, 110, 10, 114, 13, 116, 9] } : ByteArray)[4]'h).toNat : Int) = 47 := fun _ => rfl
  have p6 : ∀ h, ((({ data := #[34, 34, 92, 92, 47, 47, 98, 8, 102, 12, 110, 10, 114, 13, 116, 9] } : ByteArray)[6]'h).toNat : Int) = 98 := fun _ => rfl
  have p8 : ∀ h, ((({ data := #[34, 34, 92, 92, 47, 47, 98, 8, 102, 12, 110, 10, 114, 13, 116, 9] } : ByteArray)[8]'h).toNat : Int) = 102 := fun _ => rfl
  have p10 : ∀ h, ((({ data := #[34, 34, 92, 92, 47, 47, 98, 8, 102, 12, 110, 10, 114, 13, 116, 9] } : ByteArray)[10]'h).toNat : Int) = 110 := fun _ => rfl
  have p12 : ∀ h, ((({ data := #[34, 34, 92, 92, 47, 47, 98, 8, 102, 12, 110, 10, 114, 13, 116, 9] } : ByteArray)[12]'h).toNat : Int) = 114 := fun _ => rfl
  have p14 : ∀ h, ((({ data := #[34, 34, 92, 92, 47, 47, 98, 8, 102, 12, 110, 10, 114, 13, 116, 9] } : ByteArray)[14]'h).toNat : Int) = 116 := fun _ => rfl
  go_enter Try.func8, Try.ntmps8
  go_wp2
  refine wp_loop_rounds 6 ?_
  rw [rounds_succ]
  go_wp2
  rw [rounds_succ]
  go_wp2
  rw [rounds_succ]
  go_wp2
  rw [rounds_succ]
  go_wp2
  rw [rounds_succ]
  go_wp2
  rw [rounds_succ]
  go_wp2
  go_ret2
  exact ⟨⟨_, rfl⟩, rfl⟩

set_option maxHeartbeats 1000000 in
theorem short_114 (w : World) : Calls Try.prog 8 #[.int .u8 114] w fun e w' => (∃ x, e = .returned (.tuple #[.int .u8 x, .bool true])) ∧ w' = w := by
  have p0 : ∀ h, ((({ data := #[34, 34, 92, 92, 47, 47, 98, 8, 102, 12, 110, 10, 114, 13, 116, 9] } : ByteArray)[0]'h).toNat : Int) = 34 := fun _ => rfl
  have p2 : ∀ h, ((({ data := #[34, 34, 92, 92, 47, 47, 98, 8, 102, 12, 110, 10, 114, 13, 116, 9] } : ByteArray)[2]'h).toNat : Int) = 92 := fun _ => rfl
  have p4 : ∀ h, ((({ data := #[34, 34, 92, 92, 47, 47, 98, 8, 102, 12, 110, 10, 114, 13, 116, 9] } : ByteArray)[4]'h).toNat : Int) = 47 := fun _ => rfl
  have p6 : ∀ h, ((({ data := #[34, 34, 92, 92, 47, 47, 98, 8, 102, 12, 110, 10, 114, 13, 116, 9] } : ByteArray)[6]'h).toNat : Int) = 98 := fun _ => rfl
  have p8 : ∀ h, ((({ data := #[34, 34, 92, 92, 47, 47, 98, 8, 102, 12, 110, 10, 114, 13, 116, 9] } : ByteArray)[8]'h).toNat : Int) = 102 := fun _ => rfl
  have p10 : ∀ h, ((({ data := #[34, 34, 92, 92, 47, 47, 98, 8, 102, 12, 110, 10, 114, 13, 116, 9] } : ByteArray)[10]'h).toNat : Int) = 110 := fun _ => rfl
  have p12 : ∀ h, ((({ data := #[34, 34, 92, 92, 47, 47, 98, 8, 102, 12, 110, 10, 114, 13, 116, 9] } : ByteArray)[12]'h).toNat : Int) = 114 := fun _ => rfl
  have p14 : ∀ h, ((({ data := #[34, 34, 92, 92, 47, 47, 98, 8, 102, 12, 110, 10, 114, 13, 116, 9] } : ByteArray)[14]'h).toNat : Int) = 116 := fun _ => rfl
  go_enter Try.func8, Try.ntmps8
  go_wp2
  refine wp_loop_rounds 7 ?_
  rw [rounds_succ]
  go_wp2
  rw [rounds_succ]
  go_wp2
  rw [rounds_succ]
  go_wp2
  rw [rounds_succ]
  go_wp2
  rw [rounds_succ]
  go_wp2
  rw [rounds_succ]
  go_wp2
  rw [rounds_succ]
  go_wp2
  go_ret2
  exact ⟨⟨_, rfl⟩, rfl⟩

set_option maxHeartbeats 1000000 in
theorem short_116 (w : World) : Calls Try.prog 8 #[.int .u8 116] w fun e w' => (∃ x, e = .returned (.tuple #[.int .u8 x, .bool true])) ∧ w' = w := by
  have p0 : ∀ h, ((({ data := #[34, 34, 92, 92, 47, 47, 98, 8, 102, 12, 110, 10, 114, 13, 116, 9] } : ByteArray)[0]'h).toNat : Int) = 34 := fun _ => rfl
  have p2 : ∀ h, ((({ data := #[34, 34, 92, 92, 47, 47, 98, 8, 102, 12, 110, 10, 114, 13, 116, 9] } : ByteArray)[2]'h).toNat : Int) = 92 := fun _ => rfl
  have p4 : ∀ h, ((({ data := #[34, 34, 92, 92, 47, 47, 98, 8, 102, 12, 110, 10, 114, 13, 116, 9] } : ByteArray)[4]'h).toNat : Int) = 47 := fun _ => rfl
  have p6 : ∀ h, ((({ data := #[34, 34, 92, 92, 47, 47, 98, 8, 102, 12, 110, 10, 114, 13, 116, 9] } : ByteArray)[6]'h).toNat : Int) = 98 := fun _ => rfl
  have p8 : ∀ h, ((({ data := #[34, 34, 92, 92, 47, 47, 98, 8, 102, 12, 110, 10, 114, 13, 116, 9] } : ByteArray)[8]'h).toNat : Int) = 102 := fun _ => rfl
  have p10 : ∀ h, ((({ data := #[34, 34, 92, 92, 47, 47, 98, 8, 102, 12, 110, 10, 114, 13, 116, 9] } : ByteArray)[10]'h).toNat : Int) = 110 := fun _ => rfl
  have p12 : ∀ h, ((({ data := #[34, 34, 92, 92, 47, 47, 98, 8, 102, 12, 110, 10, 114, 13, 116, 9] } : ByteArray)[12]'h).toNat : Int) = 114 := fun _ => rfl
  have p14 : ∀ h, ((({ data := #[34, 34, 92, 92, 47, 47, 98, 8, 102, 12, 110, 10, 114, 13, 116, 9] } : ByteArray)[14]'h).toNat : Int) = 116 := fun _ => rfl
  go_enter Try.func8, Try.ntmps8
  go_wp2
  refine wp_loop_rounds 8 ?_
  rw [rounds_succ]
  go_wp2
  rw [rounds_succ]
  go_wp2
  rw [rounds_succ]
  go_wp2
  rw [rounds_succ]
  go_wp2
  rw [rounds_succ]
  go_wp2
  rw [rounds_succ]
  go_wp2
  rw [rounds_succ]
  go_wp2
  rw [rounds_succ]
  go_wp2
  go_ret2
  exact ⟨⟨_, rfl⟩, rfl⟩

set_option maxHeartbeats 1000000 in
theorem short_no (n : Int) (w : World) (h34 : (34 == n) = false) (h92 : (92 == n) = false) (h47 : (47 == n) = false) (h98 : (98 == n) = false) (h102 : (102 == n) = false) (h110 : (110 == n) = false) (h114 : (114 == n) = false) (h116 : (116 == n) = false) : Calls Try.prog 8 #[.int .u8 n] w fun e w' => (∃ x, e = .returned (.tuple #[.int .u8 x, .bool false])) ∧ w' = w := by
  have p0 : ∀ h, ((({ data := #[34, 34, 92, 92, 47, 47, 98, 8, 102, 12, 110, 10, 114, 13, 116, 9] } : ByteArray)[0]'h).toNat : Int) = 34 := fun _ => rfl
  have p2 : ∀ h, ((({ data := #[34, 34, 92, 92, 47, 47, 98, 8, 102, 12, 110, 10, 114, 13, 116, 9] } : ByteArray)[2]'h).toNat : Int) = 92 := fun _ => rfl
  have p4 : ∀ h, ((({ data := #[34, 34, 92, 92, 47, 47, 98, 8, 102, 12, 110, 10, 114, 13, 116, 9] } : ByteArray)[4]'h).toNat : Int) = 47 := fun _ => rfl
  have p6 : ∀ h, ((({ data := #[34, 34, 92, 92, 47, 47, 98, 8, 102, 12, 110, 10, 114, 13, 116, 9] } : ByteArray)[6]'h).toNat : Int) = 98 := fun _ => rfl
  have p8 : ∀ h, ((({ data := #[34, 34, 92, 92, 47, 47, 98, 8, 102, 12, 110, 10, 114, 13, 116, 9] } : ByteArray)[8]'h).toNat : Int) = 102 := fun _ => rfl
  have p10 : ∀ h, ((({ data := #[34, 34, 92, 92, 47, 47, 98, 8, 102, 12, 110, 10, 114, 13, 116, 9] } : ByteArray)[10]'h).toNat : Int) = 110 := fun _ => rfl
  have p12 : ∀ h, ((({ data := #[34, 34, 92, 92, 47, 47, 98, 8, 102, 12, 110, 10, 114, 13, 116, 9] } : ByteArray)[12]'h).toNat : Int) = 114 := fun _ => rfl
  have p14 : ∀ h, ((({ data := #[34, 34, 92, 92, 47, 47, 98, 8, 102, 12, 110, 10, 114, 13, 116, 9] } : ByteArray)[14]'h).toNat : Int) = 116 := fun _ => rfl
  go_enter Try.func8, Try.ntmps8
  go_wp2
  refine wp_loop_rounds 9 ?_
  rw [rounds_succ]
  go_wp2
  rw [rounds_succ]
  go_wp2
  rw [rounds_succ]
  go_wp2
  rw [rounds_succ]
  go_wp2
  rw [rounds_succ]
  go_wp2
  rw [rounds_succ]
  go_wp2
  rw [rounds_succ]
  go_wp2
  rw [rounds_succ]
  go_wp2
  rw [rounds_succ]
  go_wp2
  go_ret2
  exact ⟨⟨_, rfl⟩, rfl⟩

theorem short_any (n : Int) (w : World) : Calls Try.prog 8 #[.int .u8 n] w fun e w' => (∃ x, e = .returned (.tuple #[.int .u8 x, .bool (shortN n)])) ∧ w' = w := by
  by_cases h34 : n = 34
  · subst h34; exact short_34 w
  by_cases h92 : n = 92
  · subst h92; exact short_92 w
  by_cases h47 : n = 47
  · subst h47; exact short_47 w
  by_cases h98 : n = 98
  · subst h98; exact short_98 w
  by_cases h102 : n = 102
  · subst h102; exact short_102 w
  by_cases h110 : n = 110
  · subst h110; exact short_110 w
  by_cases h114 : n = 114
  · subst h114; exact short_114 w
  by_cases h116 : n = 116
  · subst h116; exact short_116 w
  have e : shortN n = false := by
    cases hs : shortN n
    · rfl
    · have := (shortN_iff n).1 hs
      omega
  rw [e]
  exact short_no n w (beq_ne h34) (beq_ne h92) (beq_ne h47) (beq_ne h98) (beq_ne h102) (beq_ne h110) (beq_ne h114) (beq_ne h116)

end Go.Proofs.Qxb6623460a
