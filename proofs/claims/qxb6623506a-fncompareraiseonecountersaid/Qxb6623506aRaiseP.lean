/-
  Raising one counter: the plain laws.
-/
import Derived.Test.Qxb6623506aTies
namespace Go.Proofs.Qxb6623506a
open Go.RowKit
set_option linter.unusedVariables false
set_option linter.unusedSectionVars false

/-- What zzRaise's loop lays, from here on. -/
def raiseL (q d : Int) : Bool → Vec → Vec
  | done, [] => if done = false ∧ 0 < d then [(q, d)] else []
  | done, a :: r => (if done = false ∧ q < a.1 ∧ 0 < d then [(q, d)] else []) ++ (if a.1 = q then (q, IntKind.u64.wrap (a.2 + d)) else a) :: raiseL q d (done || decide (q < a.1) || decide (a.1 = q)) r

def ins (q d : Int) : Vec → Vec
  | [] => [(q, d)]
  | a :: r => if q < a.1 then (q, d) :: a :: r else if a.1 = q then (q, a.2 + d) :: r else a :: ins q d r

theorem raise_done (q d : Int) (v : Vec) (h : ∀ b ∈ v, q < b.1) : raiseL q d true v = v := by
  induction v with
  | nil => rfl
  | cons a r ih =>
    have h1 := h a (by simp)
    have h2 : ¬ a.1 = q := by omega
    show (if true = false ∧ q < a.1 ∧ 0 < d then [(q, d)] else []) ++ (if a.1 = q then (q, IntKind.u64.wrap (a.2 + d)) else a) :: raiseL q d (true || decide (q < a.1) || decide (a.1 = q)) r = a :: r
    rw [if_neg h2, show (true || decide (q < a.1) || decide (a.1 = q)) = true from rfl, ih (fun b hb => h b (by simp [hb]))]
    simp

theorem wrap_u64 (n : Int) (h : 0 ≤ n) (h2 : n ≤ 18446744073709551615) : IntKind.u64.wrap n = n := by
  rw [IntKind.wrap_u64]
  omega

theorem raise_ins (q d : Int) (hd : 0 < d) (v : Vec) (hv : Rising v) (hp : Pos v) (ho : at_ v q + d ≤ 18446744073709551615) : raiseL q d false v = ins q d v := by
  induction v with
  | nil => simp [raiseL, ins, hd]
  | cons a r ih =>
    have ha := hp a (by simp)
    have hr : ∀ b ∈ r, a.1 < b.1 := hv.1
    show (if false = false ∧ q < a.1 ∧ 0 < d then [(q, d)] else []) ++ (if a.1 = q then (q, IntKind.u64.wrap (a.2 + d)) else a) :: raiseL q d (false || decide (q < a.1) || decide (a.1 = q)) r = if q < a.1 then (q, d) :: a :: r else if a.1 = q then (q, a.2 + d) :: r else a :: ins q d r
    by_cases h1 : q < a.1
    · have h2 : ¬ a.1 = q := by omega
      rw [if_pos ⟨rfl, h1, hd⟩, if_neg h2, if_pos h1]
      have e : (false || decide (q < a.1) || decide (a.1 = q)) = true := by simp [h1]
      rw [e, raise_done q d r (fun b hb => by have := hr b hb; omega)]
      rfl
    · by_cases h2 : a.1 = q
      · rw [if_neg (fun h => h1 h.2.1), if_pos h2, if_neg h1, if_pos h2]
        have e : (false || decide (q < a.1) || decide (a.1 = q)) = true := by simp [h2]
        have ho2 : at_ (a :: r) q = a.2 := by simp [at_, h2]
        rw [ho2] at ho
        rw [e, raise_done q d r (fun b hb => by have := hr b hb; omega), wrap_u64 _ (by omega) ho]
        rfl
      · rw [if_neg (fun h => h1 h.2.1), if_neg h2, if_neg h1, if_neg h2]
        have e : (false || decide (q < a.1) || decide (a.1 = q)) = false := by simp [h1, h2]
        have ho2 : at_ (a :: r) q = at_ r q := by simp [at_, h2]
        rw [ho2] at ho
        rw [e, ih hv.2 (fun b hb => hp b (by simp [hb])) ho]
        rfl

theorem raise_none (q : Int) (v : Vec) (hp : Pos v) (hm : ∀ a ∈ v, a.2 ≤ 18446744073709551615) : ∀ done, raiseL q 0 done v = v := by
  induction v with
  | nil => intro done; simp [raiseL]
  | cons a r ih =>
    intro done
    have ha := hp a (by simp)
    have hb := hm a (by simp)
    show (if done = false ∧ q < a.1 ∧ (0 : Int) < 0 then [(q, (0 : Int))] else []) ++ (if a.1 = q then (q, IntKind.u64.wrap (a.2 + 0)) else a) :: raiseL q 0 (done || decide (q < a.1) || decide (a.1 = q)) r = a :: r
    rw [ih (fun b hb => hp b (by simp [hb])) (fun b hb => hm b (by simp [hb])), if_neg (fun h => Int.lt_irrefl _ h.2.2), Int.add_zero, wrap_u64 _ (by omega) hb]
    by_cases h : a.1 = q
    · rw [if_pos h, ← h]
      rfl
    · rw [if_neg h]
      rfl

theorem mem_ins (q d : Int) (v : Vec) (x : Int) (hx : x < q) (h : ∀ b ∈ v, x < b.1) : ∀ b ∈ ins q d v, x < b.1 := by
  induction v with
  | nil =>
    intro b hb
    have e : b = (q, d) := by simpa [ins] using hb
    rw [e]
    exact hx
  | cons a r ih =>
    intro b hb
    have ha := h a (by simp)
    have hr : ∀ b ∈ r, x < b.1 := fun b hb => h b (by simp [hb])
    unfold ins at hb
    by_cases h1 : q < a.1
    · rw [if_pos h1] at hb
      rcases List.mem_cons.1 hb with e | hb
      · rw [e]; exact hx
      · exact h b hb
    · rw [if_neg h1] at hb
      by_cases h2 : a.1 = q
      · rw [if_pos h2] at hb
        rcases List.mem_cons.1 hb with e | hb
        · rw [e]; exact hx
        · exact hr b hb
      · rw [if_neg h2] at hb
        rcases List.mem_cons.1 hb with e | hb
        · rw [e]; exact ha
        · exact ih hr b hb

theorem rising_ins (q d : Int) (v : Vec) (h : Rising v) : Rising (ins q d v) := by
  induction v with
  | nil => exact ⟨fun b hb => absurd hb (List.not_mem_nil), trivial⟩
  | cons a r ih =>
    unfold ins
    by_cases h1 : q < a.1
    · rw [if_pos h1]
      refine ⟨fun b hb => ?_, h⟩
      rcases List.mem_cons.1 hb with e | hb
      · rw [e]; exact h1
      · have := h.1 b hb
        show q < b.1
        omega
    · rw [if_neg h1]
      by_cases h2 : a.1 = q
      · rw [if_pos h2]
        refine ⟨fun b hb => ?_, h.2⟩
        have := h.1 b hb
        show q < b.1
        omega
      · rw [if_neg h2]
        exact ⟨mem_ins q d r a.1 (by omega) h.1, ih h.2⟩

theorem pos_ins (q d : Int) (hd : 0 < d) (v : Vec) (h : Pos v) : Pos (ins q d v) := by
  induction v with
  | nil =>
    intro b hb
    have e : b = (q, d) := by simpa [ins] using hb
    rw [e]
    exact hd
  | cons a r ih =>
    have ha := h a (by simp)
    have hr : Pos r := fun b hb => h b (by simp [hb])
    intro b hb
    unfold ins at hb
    by_cases h1 : q < a.1
    · rw [if_pos h1] at hb
      rcases List.mem_cons.1 hb with e | hb
      · rw [e]; exact hd
      · exact h b hb
    · rw [if_neg h1] at hb
      by_cases h2 : a.1 = q
      · rw [if_pos h2] at hb
        rcases List.mem_cons.1 hb with e | hb
        · rw [e]
          show 0 < a.2 + d
          omega
        · exact hr b hb
      · rw [if_neg h2] at hb
        rcases List.mem_cons.1 hb with e | hb
        · rw [e]; exact ha
        · exact ih hr b hb

theorem at_ins (q d : Int) (v : Vec) (h : Rising v) (x : Int) : at_ (ins q d v) x = if x = q then at_ v q + d else at_ v x := by
  induction v with
  | nil =>
    show (if q = x then d else 0) = if x = q then 0 + d else 0
    by_cases e : x = q
    · rw [if_pos e, if_pos e.symm]; omega
    · rw [if_neg e, if_neg (fun k => e k.symm)]
  | cons a r ih =>
    unfold ins
    by_cases h1 : q < a.1
    · rw [if_pos h1]
      show (if q = x then d else at_ (a :: r) x) = _
      by_cases e : x = q
      · have e0 : at_ (a :: r) q = 0 := at_absent _ _ (fun b hb => by
          rcases List.mem_cons.1 hb with k | hb
          · rw [k]; omega
          · have := h.1 b hb
            omega)
        rw [if_pos e, if_pos e.symm, e0]; omega
      · rw [if_neg e, if_neg (fun k => e k.symm)]
    · rw [if_neg h1]
      by_cases h2 : a.1 = q
      · rw [if_pos h2]
        show (if q = x then a.2 + d else at_ r x) = if x = q then (if a.1 = q then a.2 else at_ r q) + d else (if a.1 = x then a.2 else at_ r x)
        by_cases e : x = q
        · rw [if_pos e, if_pos e.symm, if_pos h2]
        · rw [if_neg e, if_neg (fun k => e k.symm), if_neg (fun k => e (k.symm.trans h2))]
      · rw [if_neg h2]
        show (if a.1 = x then a.2 else at_ (ins q d r) x) = if x = q then (if a.1 = q then a.2 else at_ r q) + d else (if a.1 = x then a.2 else at_ r x)
        rw [ih h.2]
        by_cases e : x = q
        · rw [if_pos e, if_pos e, if_neg h2, if_neg (fun k => h2 (k.trans e))]
        · rw [if_neg e, if_neg e]

theorem at_mem (v : Vec) (h : Rising v) (a : Int × Int) (ha : a ∈ v) : at_ v a.1 = a.2 := by
  induction v with
  | nil => cases ha
  | cons b r ih =>
    show (if b.1 = a.1 then b.2 else at_ r a.1) = a.2
    rcases List.mem_cons.1 ha with e | ha
    · rw [e, if_pos rfl]
    · have := h.1 a ha
      rw [if_neg (by omega)]
      exact ih h.2 ha

theorem mem_at (v : Vec) (q : Int) (h : at_ v q ≠ 0) : (q, at_ v q) ∈ v := by
  induction v with
  | nil => exact absurd rfl h
  | cons b r ih =>
    have e : at_ (b :: r) q = if b.1 = q then b.2 else at_ r q := rfl
    rw [e] at h ⊢
    by_cases hb : b.1 = q
    · rw [if_pos hb, ← hb]
      simp
    · rw [if_neg hb] at h ⊢
      exact List.mem_cons_of_mem _ (ih h)

theorem at_nonneg (v : Vec) (hp : Pos v) (q : Int) : 0 ≤ at_ v q := by
  induction v with
  | nil => exact Int.le_refl _
  | cons b r ih =>
    show 0 ≤ if b.1 = q then b.2 else at_ r q
    have := hp b (by simp)
    by_cases hb : b.1 = q
    · rw [if_pos hb]; omega
    · rw [if_neg hb]
      exact ih (fun x hx => hp x (by simp [hx]))

theorem self_below (v : Vec) (h : Rising v) : someAbove v v = false := by
  unfold someAbove
  rw [List.any_eq_false]
  intro a ha
  rw [at_mem v h a ha]
  simp

section
variable (q d : Int) (hd : 0 < d) (v : Vec) (hv : Rising v) (hp : Pos v)
include hd hv hp
theorem ins_above : someAbove (ins q d v) v = true := by
  unfold someAbove
  rw [List.any_eq_true]
  have e := at_ins q d v hv q
  rw [if_pos rfl] at e
  have h0 := at_nonneg v hp q
  refine ⟨(q, at_ (ins q d v) q), mem_at _ _ (by omega), ?_⟩
  show decide (at_ v q < at_ (ins q d v) q) = true
  rw [e]
  simp
  omega
theorem ins_not_below : someAbove v (ins q d v) = false := by
  unfold someAbove
  rw [List.any_eq_false]
  intro a ha
  have e := at_ins q d v hv a.1
  have h1 := at_mem v hv a ha
  by_cases hq : a.1 = q
  · rw [if_pos hq] at e
    rw [← hq] at e
    simp
    rw [← hq]
    omega
  · rw [if_neg hq] at e
    rw [e, h1]
    simp
end

end Go.Proofs.Qxb6623506a
