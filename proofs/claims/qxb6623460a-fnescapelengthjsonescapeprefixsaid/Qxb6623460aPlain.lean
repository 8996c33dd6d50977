/-
  THE JSON ESCAPE AT THE HEAD OF A LIST OF BYTES. No Go text.
-/
import Derived.Lib.Strings
namespace Go.Proofs.Qxb6623460a

def hexN (n : Int) : Bool := decide ((48 ≤ n ∧ n ≤ 57) ∨ (97 ≤ n ∧ n ≤ 102) ∨ (65 ≤ n ∧ n ≤ 70))
def shortN (n : Int) : Bool := decide (n = 34 ∨ n = 92 ∨ n = 47 ∨ n = 98 ∨ n = 102 ∨ n = 110 ∨ n = 114 ∨ n = 116)

/-- The byte at i, 0 where there is none. -/
def bt (l : List UInt8) (i : Nat) : Int := ((l[i]?).getD 0).toNat

def hex4 (l : List UInt8) : Bool := hexN (bt l 2) && hexN (bt l 3) && hexN (bt l 4) && hexN (bt l 5)

def escL (l : List UInt8) : Int :=
  if l.length < 2 then 0 else if shortN (bt l 1) = true then 2 else if bt l 1 = 117 ∧ 6 ≤ l.length ∧ hex4 l = true then 6 else 0

theorem bt_le (l : List UInt8) (i : Nat) : 0 ≤ bt l i ∧ bt l i ≤ 255 := by
  unfold bt
  have := ((l[i]?).getD 0).toNat_lt
  omega

theorem short_117 : shortN 117 = false := by decide

theorem esc_vals (l : List UInt8) : escL l = 0 ∨ escL l = 2 ∨ escL l = 6 := by
  unfold escL
  split
  · exact .inl rfl
  · split
    · exact .inr (.inl rfl)
    · split
      · exact .inr (.inr rfl)
      · exact .inl rfl

theorem esc_two {l : List UInt8} (h : escL l = 2) : 2 ≤ l.length ∧ shortN (bt l 1) = true := by
  unfold escL at h
  split at h
  · omega
  · split at h
    · exact ⟨by omega, by assumption⟩
    · split at h <;> omega

theorem esc_six {l : List UInt8} (h : escL l = 6) : bt l 1 = 117 ∧ 6 ≤ l.length ∧ hex4 l = true := by
  unfold escL at h
  split at h
  · omega
  · split at h
    · omega
    · split at h
      · assumption
      · omega

theorem esc_two_mk {l : List UInt8} (h : 2 ≤ l.length) (h1 : shortN (bt l 1) = true) : escL l = 2 := by
  unfold escL
  rw [if_neg (by omega), if_pos h1]

theorem esc_six_mk {l : List UInt8} (h : bt l 1 = 117) (h6 : 6 ≤ l.length) (h4 : hex4 l = true) : escL l = 6 := by
  unfold escL
  rw [if_neg (by omega), if_neg (by rw [h, short_117]; simp), if_pos ⟨h, h6, h4⟩]

theorem esc_zero_short {l : List UInt8} (h : l.length < 2) : escL l = 0 := by
  unfold escL
  rw [if_pos h]

theorem esc_zero_mk {l : List UInt8} (h1 : shortN (bt l 1) = false) (h6 : ¬ (bt l 1 = 117 ∧ 6 ≤ l.length ∧ hex4 l = true)) : escL l = 0 := by
  unfold escL
  by_cases h : l.length < 2
  · rw [if_pos h]
  · rw [if_neg h, if_neg (show ¬ shortN (bt l 1) = true by rw [h1]; simp), if_neg h6]

theorem esc_zero {l : List UInt8} (h : escL l = 0) (h2 : 2 ≤ l.length) : shortN (bt l 1) = false ∧ ¬ (bt l 1 = 117 ∧ 6 ≤ l.length ∧ hex4 l = true) := by
  refine ⟨?_, fun hc => ?_⟩
  · cases hs : shortN (bt l 1)
    · rfl
    · rw [esc_two_mk h2 hs] at h; omega
  · rw [esc_six_mk hc.1 hc.2.1 hc.2.2] at h; omega

theorem bt_append (l m : List UInt8) (i : Nat) (h : i < l.length) : bt (l ++ m) i = bt l i := by
  unfold bt
  rw [List.getElem?_append_left h]

theorem bt_take (l : List UInt8) (i n : Nat) (h : i < n) : bt (l.take n) i = bt l i := by
  unfold bt
  rw [List.getElem?_take_of_lt h]

theorem hex4_append (l m : List UInt8) (h : 6 ≤ l.length) : hex4 (l ++ m) = hex4 l := by
  unfold hex4
  rw [bt_append l m 2 (by omega), bt_append l m 3 (by omega), bt_append l m 4 (by omega), bt_append l m 5 (by omega)]

theorem hex4_take (l : List UInt8) : hex4 (l.take 6) = hex4 l := by
  unfold hex4
  rw [bt_take l 2 6 (by omega), bt_take l 3 6 (by omega), bt_take l 4 6 (by omega), bt_take l 5 6 (by omega)]

theorem esc_append {l : List UInt8} (m : List UInt8) (h : 0 < escL l) : escL (l ++ m) = escL l := by
  rcases esc_vals l with h0 | h2 | h6
  · omega
  · obtain ⟨a, b⟩ := esc_two h2
    rw [h2]
    exact esc_two_mk (by simp; omega) (by rw [bt_append l m 1 (by omega)]; exact b)
  · obtain ⟨a, b, c⟩ := esc_six h6
    rw [h6]
    exact esc_six_mk (by rw [bt_append l m 1 (by omega)]; exact a) (by simp; omega) (by rw [hex4_append l m b]; exact c)

theorem esc_append_zero {l : List UInt8} (m : List UInt8) (h : escL l = 0) (h6 : 6 ≤ l.length) : escL (l ++ m) = 0 := by
  obtain ⟨a, b⟩ := esc_zero h (by omega)
  refine esc_zero_mk (by rw [bt_append l m 1 (by omega)]; exact a) (fun hc => b ⟨?_, h6, ?_⟩)
  · rw [bt_append l m 1 (by omega)] at hc; exact hc.1
  · rw [hex4_append l m h6] at hc; exact hc.2.2

theorem esc_take {l : List UInt8} {n : Nat} (h : escL l = n) (hn : 0 < n) : escL (l.take n) = n := by
  rcases esc_vals l with h0 | h2 | h6
  · omega
  · obtain ⟨a, b⟩ := esc_two h2
    obtain rfl : n = 2 := by omega
    exact esc_two_mk (by rw [List.length_take]; omega) (by rw [bt_take l 1 2 (by omega)]; exact b)
  · obtain ⟨a, b, c⟩ := esc_six h6
    obtain rfl : n = 6 := by omega
    exact esc_six_mk (by rw [bt_take l 1 6 (by omega)]; exact a) (by rw [List.length_take]; omega) (by rw [hex4_take]; exact c)

theorem esc_less {l : List UInt8} {n k : Nat} (h : escL l = n) (hk : k < n) : escL (l.take k) = 0 := by
  rcases esc_vals l with h0 | h2 | h6
  · omega
  · exact esc_zero_short (by rw [List.length_take]; omega)
  · obtain ⟨a, b, c⟩ := esc_six h6
    by_cases h2 : k < 2
    · exact esc_zero_short (by rw [List.length_take]; omega)
    · refine esc_zero_mk (by rw [bt_take l 1 k (by omega), a, short_117]) (fun hc => ?_)
      have := hc.2.1
      rw [List.length_take] at this
      omega

end Go.Proofs.Qxb6623460a
