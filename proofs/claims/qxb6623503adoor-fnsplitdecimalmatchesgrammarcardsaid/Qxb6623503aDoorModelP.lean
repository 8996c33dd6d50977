/-
  The model's loops, round by round; rows of bytes of the call's own. (No walk.)
-/
import Derived.Test.Qxb6623503aDoorLead
import Derived.OwnWalk
namespace Go.Proofs.Qxb6623503aDoor
open Go.RowKit
set_option linter.unusedVariables false

theorem digs_snoc (p : Bytes) (c : UInt8) : digs (p ++ [c]) = digs p ++ (if isD c = true then [c] else []) := by
  rw [digs_append]
  congr 1
  cases h : isD c <;> simp [digs, h]
theorem dots_snoc (p : Bytes) (c : UInt8) : dots (p ++ [c]) = dots p + (if c.toNat = 46 then 1 else 0) := by
  rw [dots_append]
  congr 1
  by_cases h : c.toNat = 46 <;> simp [dots, h]

theorem fracN_zero (p : Bytes) (h : dots p = 0) : fracN p = 0 := by
  induction p with
  | nil => rfl
  | cons x r ih =>
    have e : dots (x :: r) = (if x.toNat = 46 then 1 else 0) + dots r := by
      by_cases hx : x.toNat = 46 <;> simp [dots, hx] <;> omega
    rw [e] at h
    have hx : ¬ x.toNat = 46 := by
      intro hx
      rw [if_pos hx] at h
      omega
    simp only [fracN]
    rw [if_neg hx]
    rw [if_neg hx] at h
    exact ih (by omega)

theorem fracN_snoc_dot (p : Bytes) (c : UInt8) (hc : c.toNat = 46) (h : dots p = 0) : fracN (p ++ [c]) = 0 := by
  induction p with
  | nil => simp [fracN, hc, digs]
  | cons x r ih =>
    have e : dots (x :: r) = (if x.toNat = 46 then 1 else 0) + dots r := by
      by_cases hx : x.toNat = 46 <;> simp [dots, hx] <;> omega
    rw [e] at h
    have hx : ¬ x.toNat = 46 := by
      intro hx
      rw [if_pos hx] at h
      omega
    simp only [List.cons_append, fracN]
    rw [if_neg hx]
    rw [if_neg hx] at h
    exact ih (by omega)

theorem fracN_snoc_digit (p : Bytes) (c : UInt8) (hc : isD c = true) : fracN (p ++ [c]) = fracN p + (if dots p = 0 then 0 else 1) := by
  induction p with
  | nil =>
    have := isD_not_dot hc
    simp [fracN, this, dots]
  | cons x r ih =>
    have e : dots (x :: r) = (if x.toNat = 46 then 1 else 0) + dots r := by
      by_cases hx : x.toNat = 46 <;> simp [dots, hx] <;> omega
    simp only [List.cons_append, fracN]
    rw [e]
    by_cases hx : x.toNat = 46
    · rw [if_pos hx, if_pos hx, if_pos hx, digs_snoc, if_pos hc, List.length_append]
      rw [if_neg (by omega)]
      rfl
    · rw [if_neg hx, if_neg hx, if_neg hx, ih, Nat.zero_add]

theorem fracN_le (p : Bytes) : fracN p ≤ p.length := by
  induction p with
  | nil => exact Nat.le_refl _
  | cons x r ih =>
    simp only [fracN]
    split
    · have := List.length_filter_le isD r
      unfold digs
      simp only [List.length_cons]
      omega
    · simp only [List.length_cons]
      omega

theorem take_snoc (l : Bytes) (k : Nat) (c : UInt8) (h : l[k]? = some c) : l.take (k + 1) = l.take k ++ [c] := by
  rw [List.take_add_one, h]
  rfl

theorem ok_dots {l : Bytes} (h : okB l = true) : dots l ≤ 1 := by
  unfold okB at h
  rw [Bool.and_eq_true] at h
  simpa using h.2

theorem ok_snoc {p : Bytes} {c : UInt8} (h : okB p = true) (hc : isD c = true ∨ (c.toNat = 46 ∧ dots p = 0)) : okB (p ++ [c]) = true := by
  have hd := ok_dots h
  unfold okB at h ⊢
  rw [Bool.and_eq_true] at h ⊢
  rw [dots_snoc, List.all_append]
  refine ⟨?_, ?_⟩
  · rw [h.1]
    rcases hc with hc | hc
    · simp [hc]
    · simp [hc.1]
  · rcases hc with hc | hc
    · rw [if_neg (isD_not_dot hc)]
      simpa using hd
    · rw [if_pos hc.1, hc.2]
      decide

theorem ok_bad {l : Bytes} {k : Nat} {c : UInt8} (h : l[k]? = some c) (hd : isD c = false) (h2 : ¬ c.toNat = 46 ∨ 1 ≤ dots (l.take k)) : okB l = false := by
  have hk : k < l.length := (List.getElem?_eq_some_iff.1 h).1
  have e : l = l.take k ++ c :: l.drop (k + 1) := by
    have h1 := (List.take_append_drop k l).symm
    rw [List.drop_eq_getElem_cons hk] at h1
    rw [List.getElem?_eq_getElem hk] at h
    injection h with h
    rw [h] at h1
    exact h1
  rw [e]
  exact ok_fails_at _ _ _ hd (fun hc => h2.elim (fun h => absurd hc h) id)

theorem magS_digit (a : Nat) (c : UInt8) : magS a c = if a ≤ 1048576 then a * 10 + (c.toNat - 48) else a := rfl

theorem mag_le (l : Bytes) (acc : Nat) (h : acc ≤ 10486000) : magF acc l ≤ 10486000 := by
  induction l generalizing acc with
  | nil => rw [magF_nil]; exact h
  | cons c r ih =>
    rw [magF_cons]
    refine ih _ ?_
    rw [magS_digit]
    have := c.toNat_lt
    split
    · omega
    · exact h

theorem all_bad {l : Bytes} {k : Nat} {c : UInt8} (h : l[k]? = some c) (hd : isD c = false) : l.all isD = false := by
  have hm : c ∈ l := List.mem_of_getElem? h
  rw [List.all_eq_false]
  exact ⟨c, hm, by rw [hd]; simp⟩
theorem all_snoc {l : Bytes} {k : Nat} {c : UInt8} (h : l[k]? = some c) (hd : isD c = true) (ha : (l.take k).all isD = true) : (l.take (k + 1)).all isD = true := by
  rw [take_snoc l k c h, List.all_append, ha]
  simp [hd]

/-! Rows of bytes. -/
def bv (c : UInt8) : Value := .int .u8 (c.toNat : Int)

theorem own_form {w : World} {base n : Nat} {v : Value} {xs : List Value} (h : w.ownsRow base 5 1 v n xs) (hv : ¬ v = .slice none 0 0) : ∃ g cap, v = .slice (some ⟨g, 0, none⟩) n cap := by
  obtain ⟨_, h⟩ := h
  rcases h with ⟨h1, _⟩ | ⟨g, cap, cur, h1, _⟩
  · exact absurd h1 hv
  · exact ⟨g, cap, h1⟩

theorem own_cells {w : World} {base n g cap : Nat} {l : Bytes} (h : w.ownsRow base 5 1 (.slice (some ⟨g, 0, none⟩) n cap) n (l.map bv)) : n = l.length ∧ ∀ j (hj : j < l.length), w.cell? (Addr.add ⟨g, 0, none⟩ j) = some (.int .u8 (l[j].toNat : Int)) := by
  obtain ⟨h0, h⟩ := h
  have hn : n = l.length := by simpa using h0.symm
  refine ⟨hn, fun j hj => ?_⟩
  rcases h with ⟨h1, _⟩ | ⟨g', cap', cur, h1, _, hb, hc, _, hs, ht⟩
  · cases h1
  · cases h1
    have e1 : Addr.add ⟨g, 0, none⟩ j = ⟨g, j, none⟩ := by
      rw [Go.WideShapes.add_plain]; simp
    rw [e1]
    have e2 : cur[j]? = some (bv l[j]) := by
      have h2 := congrArg (fun (x : List Value) => x[j]?) ht
      simp only [Nat.mul_one, List.getElem?_map, List.getElem?_eq_getElem hj, Option.map_some] at h2
      rw [List.getElem?_take_of_lt (by omega)] at h2
      simpa using h2
    simp [World.cell?, hb, e2, bv]

theorem conv_own {w : World} {base n g cap : Nat} {l : Bytes} (h : w.ownsRow base 5 1 (.slice (some ⟨g, 0, none⟩) n cap) n (l.map bv)) :
    (convert 25 9 (.slice (some ⟨g, 0, none⟩) n cap)).run Tryd.prog w = .ok (.string (bs l)) w := by
  obtain ⟨hn, hc⟩ := own_cells h
  subst hn
  exact run_convert_bytes_back w 25 9 5 ⟨g, 0, none⟩ cap l Tryd.underlying25 Tryd.underlying5 Tryd.underlying9 hc

theorem info5 : (Tryd.prog.info? 5).map (fun i => (i.zero, i.size, i.bytes)) = some (some (.int .u8 0), 1, 1) := by kernel_rfl

end Go.Proofs.Qxb6623503aDoor
