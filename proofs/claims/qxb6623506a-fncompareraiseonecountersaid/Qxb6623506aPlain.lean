/-
  TIMESTAMPS AS LISTS OF (process, counter): the dense reading, 'above' as the text walks, and what it says. No Go text.
-/
namespace Go.Proofs.Qxb6623506a
set_option linter.unusedVariables false

abbrev Vec := List (Int × Int)

/-- The dense reading: q's counter, or 0. -/
def at_ : Vec → Int → Int
  | [], _ => 0
  | a :: r, q => if a.1 = q then a.2 else at_ r q

def Rising : Vec → Prop
  | [] => True
  | a :: r => (∀ b ∈ r, a.1 < b.1) ∧ Rising r

def Pos (v : Vec) : Prop := ∀ a ∈ v, 0 < a.2

/-- Some counter of v is above the same counter of w. -/
def someAbove (v w : Vec) : Bool := v.any (fun a => decide (at_ w a.1 < a.2))

def skip (x : Int) (w : Vec) : Vec := w.dropWhile (fun b => decide (b.1 < x))

/-- As the text walks: the two lists together. -/
def aboveF : Vec → Vec → Bool
  | [], _ => false
  | a :: v, w => match skip a.1 w with
    | [] => true
    | b :: w2 => if a.1 < b.1 ∨ b.2 < a.2 then true else aboveF v w2

theorem at_absent (w : Vec) (q : Int) (h : ∀ b ∈ w, b.1 ≠ q) : at_ w q = 0 := by
  induction w with
  | nil => rfl
  | cons b r ih =>
    unfold at_
    rw [if_neg (h b (by simp))]
    exact ih (fun x hx => h x (by simp [hx]))

theorem at_skip (x : Int) (w : Vec) (q : Int) (h : x ≤ q) : at_ (skip x w) q = at_ w q := by
  induction w with
  | nil => rfl
  | cons b r ih =>
    unfold skip
    rw [List.dropWhile_cons]
    by_cases hb : b.1 < x
    · rw [if_pos (by simpa using hb)]
      have e : at_ (b :: r) q = at_ r q := by
        show (if b.1 = q then b.2 else at_ r q) = at_ r q
        rw [if_neg (by omega)]
      rw [e]
      exact ih
    · rw [if_neg (by simpa using hb)]

theorem rising_skip (x : Int) (w : Vec) (h : Rising w) : Rising (skip x w) := by
  induction w with
  | nil => exact h
  | cons b r ih =>
    unfold skip
    rw [List.dropWhile_cons]
    by_cases hb : b.1 < x
    · rw [if_pos (by simpa using hb)]
      exact ih h.2
    · rw [if_neg (by simpa using hb)]
      exact h

theorem skip_head (x : Int) (w : Vec) {b : Int × Int} {r : Vec} (h : skip x w = b :: r) : x ≤ b.1 := by
  induction w with
  | nil => cases h
  | cons c t ih =>
    unfold skip at h
    rw [List.dropWhile_cons] at h
    by_cases hb : c.1 < x
    · rw [if_pos (by simpa using hb)] at h
      exact ih h
    · rw [if_neg (by simpa using hb)] at h
      injection h with h1 h2
      rw [← h1]
      omega

theorem above_iff (v w : Vec) (hv : Rising v) (hp : Pos v) (hw : Rising w) : aboveF v w = someAbove v w := by
  induction v generalizing w with
  | nil => rfl
  | cons a r ih =>
    have hp' : Pos r := fun x hx => hp x (by simp [hx])
    have ha := hp a (by simp)
    unfold aboveF someAbove
    rw [List.any_cons]
    have e1 := at_skip a.1 w a.1 (Int.le_refl _)
    have hr := rising_skip a.1 w hw
    cases hs : skip a.1 w with
    | nil =>
      rw [hs] at e1
      have e2 : at_ w a.1 = 0 := e1.symm
      rw [e2]
      simp [ha]
    | cons b w2 =>
      have hb := skip_head a.1 w hs
      rw [hs] at e1 hr
      by_cases hlt : a.1 < b.1
      · have e2 : at_ w a.1 = 0 := by
          rw [← e1]
          refine at_absent _ _ (fun x hx => ?_)
          rcases List.mem_cons.1 hx with rfl | hx
          · omega
          · have := hr.1 x hx; omega
        rw [e2]
        simp [hlt, ha]
      · have hbe : b.1 = a.1 := by omega
        have e2 : at_ w a.1 = b.2 := by
          rw [← e1]
          show (if b.1 = a.1 then b.2 else _) = b.2
          rw [if_pos hbe]
        rw [e2]
        by_cases hc : b.2 < a.2
        · simp [hc]
        · have e3 : someAbove r w2 = r.any (fun x => decide (at_ w x.1 < x.2)) := by
            unfold someAbove
            rw [Bool.eq_iff_iff, List.any_eq_true, List.any_eq_true]
            have key : ∀ x ∈ r, at_ w2 x.1 = at_ w x.1 := fun x hx => by
              have hx1 := hv.1 x hx
              rw [← at_skip a.1 w x.1 (by omega), hs]
              show _ = (if b.1 = x.1 then b.2 else at_ w2 x.1)
              rw [if_neg (by omega)]
            constructor
            · rintro ⟨x, hx, h⟩; exact ⟨x, hx, by rw [← key x hx]; exact h⟩
            · rintro ⟨x, hx, h⟩; exact ⟨x, hx, by rw [key x hx]; exact h⟩
          simp only [hlt, hc, or_self, if_false, decide_false, Bool.false_or]
          rw [ih w2 hv.2 hp' hr.2, e3]

/-! The order. -/
def compareF (below above : Bool) : Int := if below && above then 3 else if below then 0 else if above then 1 else 2
def denseF (le ge : Bool) : Int := if le && ge then 2 else if le then 0 else if ge then 1 else 3
def mirrorF (o : Int) : Int := if o = 0 then 1 else if o = 1 then 0 else o

theorem dense_compare (x y : Bool) : compareF x y = denseF (!y) (!x) := by cases x <;> cases y <;> rfl
theorem mirror_compare (x y : Bool) : compareF y x = mirrorF (denseF (!y) (!x)) := by cases x <;> cases y <;> rfl

end Go.Proofs.Qxb6623506a
