/-
  leadingDigits (8), zzBytes (4).
-/
import Derived.Test.Qxb6623503aDoorRows
import Derived.Test.Qxb6623503aDoorPlain
import Derived.WalkKit
import Derived.WalkSpells
import Derived.WalkLawsBesides
import Derived.Deep.QuietTactic
import Derived.BigQuiet
import Derived.Lib.SmallJoins
namespace Go.Proofs.Qxb6623503aDoor
open Go.RowKit
set_option linter.unusedVariables false

/-- The string of a list of bytes. -/
def bs (l : Bytes) : ByteArray := ⟨l.toArray⟩

theorem bs_list (l : Bytes) : (bs l).data.toList = l := rfl
theorem bs_size (l : Bytes) : (bs l).size = l.length := by
  show l.toArray.size = l.length
  simp
theorem bs_of (s : ByteArray) : s = bs s.data.toList := rfl
theorem bs_get (l : Bytes) (i : Nat) (h : i < (bs l).size) (c : UInt8) (hc : l[i]? = some c) : (((bs l)[i]'h).toNat : Int) = (c.toNat : Int) := by
  have h' : i < l.length := by rw [← bs_size]; exact h
  rw [List.getElem?_eq_getElem h'] at hc
  injection hc with hc
  rw [← hc]
  rfl
theorem bs_ext {s : ByteArray} {l : Bytes} (h : s.data.toList = l) : s = bs l := by rw [← h]; rfl
theorem bs_take (l : Bytes) (n : Nat) : (bs l).extract 0 n = bs (l.take n) := bs_ext (by rw [Lib.extract_data, bs_list]; simp)
theorem bs_drop (l : Bytes) (n : Nat) : (bs l).extract n l.length = bs (l.drop n) := bs_ext (by
  rw [Lib.extract_data, bs_list, ← List.length_drop, List.take_length])

theorem lead_len (l : Bytes) : (lead l).length + (tail l).length = l.length := by
  have := congrArg List.length (split_lead l)
  rw [List.length_append] at this
  exact this.symm
theorem take_lead (l : Bytes) : l.take (lead l).length = lead l := by
  have h : (lead l ++ tail l).take (lead l).length = lead l := List.take_left
  rw [← split_lead l] at h
  exact h
theorem drop_lead (l : Bytes) : l.drop (lead l).length = tail l := by
  have h : (lead l ++ tail l).drop (lead l).length = tail l := List.drop_left
  rw [← split_lead l] at h
  exact h
theorem lead_at (l : Bytes) (k : Nat) (h : k < (lead l).length) : ∃ c, l[k]? = some c ∧ 48 ≤ (c.toNat : Int) ∧ (c.toNat : Int) ≤ 57 := by
  refine ⟨(lead l)[k], ?_, ?_⟩
  · conv => lhs; rw [split_lead l]
    rw [List.getElem?_append_left h, List.getElem?_eq_getElem h]
  · have := lead_isD l _ (List.getElem_mem h)
    simp [isD] at this
    omega
theorem tail_at (l : Bytes) {c : UInt8} {t : Bytes} (h : tail l = c :: t) : l[(lead l).length]? = some c := by
  have h0 : (lead l ++ tail l)[(lead l).length]? = some c := by
    rw [List.getElem?_append_right (Nat.le_refl _), Nat.sub_self, h]
    rfl
  rw [← split_lead l] at h0
  exact h0

theorem nil_or (l : Bytes) : l = [] ∨ ∃ c t, l = c :: t := by
  cases l with
  | nil => exact .inl rfl
  | cons c t => exact .inr ⟨c, t, rfl⟩

set_option maxHeartbeats 1000000 in
theorem lead_any (l : Bytes) (w : World) (hl : l.length ≤ 2 ^ 62) :
    Calls Tryd.prog 8 #[.string (bs l)] w fun e w' => (e = .returned (.tuple #[.string (bs (lead l)), .string (bs (tail l))])) ∧ ∃ nq, w' = w.drewN nq := by
  have hs := bs_size l
  have hle := lead_len l
  have t1 : ∀ k, k = (lead l).length → (bs l).extract 0 k = bs (lead l) := fun k hk => by rw [bs_take, hk, take_lead]
  have t2 : ∀ k, k = (lead l).length → (bs l).extract k l.length = bs (tail l) := fun k hk => by rw [bs_drop, hk, drop_lead]
  have T1 : Hid (∀ k, k = (lead l).length → (bs l).extract 0 k = bs (lead l)) := t1
  have T2 : Hid (∀ k, k = (lead l).length → (bs l).extract k l.length = bs (tail l)) := t2
  have HL : Hid ((lead l).length + (tail l).length = l.length) := hle
  have hle2 : (lead l).length ≤ l.length := by omega
  clear t1 t2 hle
  go_enter Tryd.func8, Tryd.ntmps8
  go_wp2
  go_loop [4] (fun i => ∃ k : Nat, k ≤ (lead l).length ∧ i = .int .i64 k) (fun i => (lead l).length - (intOf i).toNat)
  case atStart => exact ⟨0, Nat.zero_le _, rfl⟩
  case round =>
    obtain ⟨k, hk, rfl⟩ := hrel
    by_cases hlt : k < (lead l).length
    · obtain ⟨c, hc, c0, c1⟩ := lead_at l k hlt
      have kb : ∀ h, (((bs l)[k]'h).toNat : Int) = (c.toNat : Int) := fun h => bs_get l k h c hc
      have hkl : k < l.length := by omega
      clear hc
      go_wp2
      go_round
      case rel => exact ⟨k + 1, by omega, by go_num⟩
      case measure => simp [intOf]; omega
    · have e : k = (lead l).length := by omega
      have e1 := T1.out k e
      have e2 := T2.out k e
      rcases nil_or (tail l) with ht | ⟨c, t, ht⟩
      · have hkl : l.length ≤ k := by
          have h0 := HL.out
          rw [ht] at h0
          simp at h0
          omega
        have hkl' : k ≤ l.length := by omega
        clear hlt e ht
        go_wp2
        go_quiet (fail)
        go_wp2
        go_ret2
        exact ⟨rfl, _, rfl⟩
      · have hkl : k < l.length := by
          have h0 := HL.out
          rw [ht] at h0
          simp at h0
          omega
        have hnd := tail_head l ht
        have kb : ∀ h, (((bs l)[k]'h).toNat : Int) = (c.toNat : Int) := fun h => bs_get l k h c (by rw [e]; exact tail_at l ht)
        have hc : (c.toNat : Int) < 48 ∨ 57 < (c.toNat : Int) := by
          simp [isD] at hnd
          omega
        clear hlt e ht hnd
        rcases hc with hc | hc
        · go_wp2
          go_quiet (fail)
          go_wp2
          go_ret2
          exact ⟨rfl, _, rfl⟩
        · go_wp2
          go_quiet (fail)
          go_wp2
          go_ret2
          exact ⟨rfl, _, rfl⟩

/-- Some bool comes back. -/
def RetB (e : Ending) : Prop := ∃ b, e = .returned (.bool b)

set_option maxHeartbeats 1000000 in
theorem bytes_any (s : ByteArray) (w : World) (hm : s.size ≤ 2 ^ 63 - 1) : Calls Tryd.prog 4 #[.string s] w fun e w' => RetB e ∧ w' = w := by
  go_enter Tryd.func4, Tryd.ntmps4
  go_wp2
  all_goals (go_ret; exact ⟨⟨_, rfl⟩, rfl⟩)

end Go.Proofs.Qxb6623503aDoor
