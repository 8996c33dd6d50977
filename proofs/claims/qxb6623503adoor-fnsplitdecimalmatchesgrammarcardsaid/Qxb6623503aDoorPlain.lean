/-
  A DECIMAL NUMBER SPLIT: the text's road and the model's road, over lists of bytes. No Go text.
-/
import Derived.Lib.AtoiAll
namespace Go.Proofs.Qxb6623503aDoor
set_option linter.unusedVariables false

abbrev Bytes := List UInt8
abbrev Res := Bytes × Int × Bool

def isD (c : UInt8) : Bool := decide (48 ≤ c.toNat ∧ c.toNat ≤ 57)
def isE (c : UInt8) : Bool := decide (c.toNat = 101 ∨ c.toNat = 69)
def lead (l : Bytes) : Bytes := l.takeWhile isD
def tail (l : Bytes) : Bytes := l.dropWhile isD

/-- The clamp. -/
def bnd : Nat := 1048576

def failed : Res := ([], 0, false)

def dval (c : UInt8) : Nat := c.toNat - 48

/-- What the digits spell, behind 'acc'. -/
def valF (acc : Nat) (l : Bytes) : Nat := l.foldl (fun a c => a * 10 + dval c) acc

/-- The model's road: it stops to add once it has passed the bound. -/
def magS (a : Nat) (c : UInt8) : Nat := if a ≤ bnd then a * 10 + dval c else a
def magF (acc : Nat) (l : Bytes) : Nat := l.foldl magS acc

def negOf : Bytes → Bool
  | c :: _ => decide (c.toNat = 45)
  | [] => false
def unsigned : Bytes → Bytes
  | c :: u => if c.toNat = 45 ∨ c.toNat = 43 then u else c :: u
  | [] => []

def signed (neg : Bool) (v : Int) : Int := if neg then -v else v

def expo (d : Bytes) (n : Nat) (t : Bytes) : Res :=
  if lead (unsigned t) = [] ∨ tail (unsigned t) ≠ [] then failed
  else (d, signed (negOf t) (min (valF 0 (unsigned t)) bnd : Nat) - n, true)

def frac : Bytes → Bytes
  | c :: t => if c.toNat = 46 then lead t else []
  | [] => []
def rest2 : Bytes → Bytes
  | c :: t => if c.toNat = 46 then tail t else c :: t
  | [] => []

/-- The text's road. -/
def splitRes (l : Bytes) : Res :=
  if lead l = [] ∧ frac (tail l) = [] then failed
  else match rest2 (tail l) with
    | [] => (lead l ++ frac (tail l), 0 - ((frac (tail l)).length : Int), true)
    | c :: t => if isE c = true then expo (lead l ++ frac (tail l)) (frac (tail l)).length t else failed

/-! The model's road. -/
def mant (l : Bytes) : Bytes := l.takeWhile (fun c => !isE c)
def aft (l : Bytes) : Bytes := l.dropWhile (fun c => !isE c)
def dots (l : Bytes) : Nat := (l.filter (fun c => decide (c.toNat = 46))).length
def okB (l : Bytes) : Bool := l.all (fun c => isD c || decide (c.toNat = 46)) && decide (dots l ≤ 1)
def digs (l : Bytes) : Bytes := l.filter isD
/-- How many digits stand behind the point. -/
def fracN : Bytes → Nat
  | [] => 0
  | c :: t => if c.toNat = 46 then (digs t).length else fracN t

def expoM (d : Bytes) (n : Nat) (t : Bytes) : Res :=
  if unsigned t = [] ∨ (unsigned t).all isD = false then failed
  else (d, signed (negOf t) (min (magF 0 (unsigned t)) bnd : Nat) - n, true)

def modelRes (l : Bytes) : Res :=
  if okB (mant l) = false ∨ digs (mant l) = [] then failed
  else match aft l with
    | [] => (digs (mant l), 0 - (fracN (mant l) : Int), true)
    | _ :: t => expoM (digs (mant l)) (fracN (mant l)) t

/-! The exponent. -/
theorem valF_nil (acc : Nat) : valF acc [] = acc := rfl
theorem valF_cons (acc : Nat) (c : UInt8) (r : Bytes) : valF acc (c :: r) = valF (acc * 10 + dval c) r := by
  unfold valF
  rw [List.foldl_cons]
theorem magF_nil (acc : Nat) : magF acc [] = acc := rfl
theorem magF_cons (acc : Nat) (c : UInt8) (r : Bytes) : magF acc (c :: r) = magF (magS acc c) r := by
  unfold magF
  rw [List.foldl_cons]
theorem magF_snoc (acc : Nat) (c : UInt8) (r : Bytes) : magF acc (r ++ [c]) = magS (magF acc r) c := by
  unfold magF
  rw [List.foldl_append]
  rfl

theorem magF_big (e : Bytes) (acc : Nat) (h : bnd < acc) : magF acc e = acc := by
  induction e with
  | nil => exact magF_nil acc
  | cons c r ih =>
    rw [magF_cons]
    have e1 : magS acc c = acc := by unfold magS; rw [if_neg (by omega)]
    rw [e1]
    exact ih

theorem valF_ge (e : Bytes) (acc : Nat) : acc ≤ valF acc e := by
  induction e generalizing acc with
  | nil => rw [valF_nil]; exact Nat.le_refl acc
  | cons c r ih =>
    have h := ih (acc * 10 + dval c)
    rw [valF_cons]
    omega

theorem mag_val (e : Bytes) (acc : Nat) : min (magF acc e) bnd = min (valF acc e) bnd := by
  induction e generalizing acc with
  | nil => rw [valF_nil, magF_nil]
  | cons c r ih =>
    rw [valF_cons, magF_cons]
    unfold magS
    by_cases h : acc ≤ bnd
    · rw [if_pos h]
      exact ih _
    · rw [if_neg h, magF_big r acc (by omega)]
      have h2 := valF_ge r (acc * 10 + dval c)
      generalize valF (acc * 10 + dval c) r = v at h2 ⊢
      generalize bnd = B at h ⊢
      omega

theorem lead_all {e : Bytes} (h : tail e = []) : lead e = e := by
  have := List.takeWhile_append_dropWhile (p := isD) (l := e)
  unfold tail at h
  unfold lead
  rw [h, List.append_nil] at this
  exact this

theorem tail_nil_iff (e : Bytes) : tail e = [] ↔ e.all isD = true := by
  unfold tail
  induction e with
  | nil => simp
  | cons c r ih =>
    rw [List.dropWhile_cons]
    cases hc : isD c
    · simp [hc]
    · simp only [if_true, List.all_cons, hc, Bool.true_and]
      exact ih

theorem expo_eq (d : Bytes) (n : Nat) (t : Bytes) : expoM d n t = expo d n t := by
  unfold expoM expo
  rw [mag_val]
  by_cases h : tail (unsigned t) = []
  · have h1 := lead_all h
    have h2 := (tail_nil_iff _).1 h
    rw [h1, h2]
    simp [h]
  · have h2 : (unsigned t).all isD = false := by
      cases ha : (unsigned t).all isD
      · rfl
      · exact absurd ((tail_nil_iff _).2 ha) h
    rw [if_pos (.inr h2), if_pos (.inr h)]

/-! The mantissa. -/
theorem split_lead (l : Bytes) : l = lead l ++ tail l := (List.takeWhile_append_dropWhile (p := isD) (l := l)).symm

theorem lead_isD (l : Bytes) : ∀ c ∈ lead l, isD c = true := fun c hc => List.all_eq_true.1 List.all_takeWhile c hc

theorem tail_head (l : Bytes) {c : UInt8} {t : Bytes} (h : tail l = c :: t) : isD c = false := by
  unfold tail at h
  have := List.head?_dropWhile_not isD l
  rw [h] at this
  simpa using this

theorem isD_not_E {c : UInt8} (h : isD c = true) : isE c = false := by
  simp [isD] at h
  simp [isE]
  omega
theorem isD_not_dot {c : UInt8} (h : isD c = true) : ¬ c.toNat = 46 := by
  simp [isD] at h
  omega
theorem dot_not_E {c : UInt8} (h : c.toNat = 46) : isE c = false := by
  simp [isE]
  omega
theorem dot_not_D {c : UInt8} (h : c.toNat = 46) : isD c = false := by
  simp [isD]
  omega

theorem mant_append (a b : Bytes) (h : ∀ c ∈ a, isE c = false) : mant (a ++ b) = a ++ mant b := by
  unfold mant
  rw [List.takeWhile_append_of_pos (fun c hc => by rw [h c hc]; rfl)]
theorem aft_append (a b : Bytes) (h : ∀ c ∈ a, isE c = false) : aft (a ++ b) = aft b := by
  unfold aft
  rw [List.dropWhile_append_of_pos (fun c hc => by rw [h c hc]; rfl)]

theorem digs_all {a : Bytes} (h : ∀ c ∈ a, isD c = true) : digs a = a := List.filter_eq_self.2 h
theorem digs_append (a b : Bytes) : digs (a ++ b) = digs a ++ digs b := List.filter_append _ _

theorem fracN_append {a : Bytes} (h : ∀ c ∈ a, isD c = true) (b : Bytes) : fracN (a ++ b) = fracN b := by
  induction a with
  | nil => rfl
  | cons c r ih =>
    simp only [List.cons_append, fracN]
    rw [if_neg (isD_not_dot (h c (by simp)))]
    exact ih (fun x hx => h x (by simp [hx]))

theorem dots_none {a : Bytes} (h : ∀ c ∈ a, isD c = true) : dots a = 0 := by
  unfold dots
  rw [List.filter_eq_nil_iff.2 (fun c hc => by simpa using isD_not_dot (h c hc))]
  rfl
theorem dots_append (a b : Bytes) : dots (a ++ b) = dots a + dots b := by simp [dots]

/-- A byte that is no digit, no point and no marker behind the mantissa, or a second point: the model fails. -/
theorem ok_fails_at (a : Bytes) (c : UInt8) (b : Bytes) (h : isD c = false) (h2 : c.toNat = 46 → 1 ≤ dots a) : okB (a ++ c :: b) = false := by
  unfold okB
  rw [dots_append]
  by_cases hd : c.toNat = 46
  · have e : dots (c :: b) = 1 + dots b := by simp [dots, hd]; omega
    rw [e, decide_eq_false (by have := h2 hd; omega), Bool.and_false]
  · have e : (a ++ c :: b).all (fun c => isD c || decide (c.toNat = 46)) = false := by
      rw [List.all_append]
      simp [h, hd]
    rw [e, Bool.false_and]

theorem ok_digits {a : Bytes} (h : ∀ c ∈ a, isD c = true) : okB a = true := by
  unfold okB
  rw [dots_none h]
  simp only [Nat.zero_le, decide_true, Bool.and_true]
  exact List.all_eq_true.2 (fun c hc => by rw [h c hc]; rfl)

theorem ok_point {a b : Bytes} {p : UInt8} (h : ∀ c ∈ a, isD c = true) (hp : p.toNat = 46) (h' : ∀ c ∈ b, isD c = true) : okB (a ++ p :: b) = true := by
  unfold okB
  have e : dots (p :: b) = 1 + dots b := by simp [dots, hp]; omega
  rw [dots_append, dots_none h, e, dots_none h']
  simp only [Nat.zero_add, Nat.add_zero, Nat.le_refl, decide_true, Bool.and_true]
  refine List.all_eq_true.2 (fun c hc => ?_)
  rcases List.mem_append.1 hc with h1 | h1
  · rw [h c h1]; rfl
  · rcases List.mem_cons.1 h1 with rfl | h1
    · simp [hp]
    · rw [h' c h1]; rfl

/-- THE TWO ROADS MEET. -/
theorem model_split (l : Bytes) : modelRes l = splitRes l := by
  have hl := split_lead l
  have hw := lead_isD l
  have hwE : ∀ c ∈ lead l, isE c = false := fun c hc => isD_not_E (hw c hc)
  have m1 : mant l = lead l ++ mant (tail l) := by rw [← mant_append _ _ hwE, ← hl]
  have a1 : aft l = aft (tail l) := (congrArg aft hl).trans (aft_append _ _ hwE)
  unfold modelRes splitRes
  rw [m1, a1, digs_append, digs_all hw, fracN_append hw]
  cases ht : tail l with
  | nil =>
    have e1 : mant ([] : Bytes) = [] := rfl
    have e2 : aft ([] : Bytes) = [] := rfl
    rw [e1, e2, List.append_nil, ok_digits hw]
    simp [frac, rest2, digs, fracN]
  | cons c t =>
    have hc := tail_head l ht
    by_cases hd : c.toNat = 46
    · -- a point
      have hf := lead_isD t
      have hfE : ∀ x ∈ lead t, isE x = false := fun x hx => isD_not_E (hf x hx)
      have ef : frac (c :: t) = lead t := by simp [frac, hd]
      have er : rest2 (c :: t) = tail t := by simp [rest2, hd]
      have m2 : mant (c :: t) = c :: (lead t ++ mant (tail t)) := by
        have h0 : mant (c :: t) = c :: mant t := by simp [mant, dot_not_E hd]
        rw [h0, ← mant_append _ _ hfE, ← split_lead t]
      have a2 : aft (c :: t) = aft (tail t) := by
        have h0 : aft (c :: t) = aft t := by simp [aft, dot_not_E hd]
        exact h0.trans ((congrArg aft (split_lead t)).trans (aft_append _ _ hfE))
      have d2 : digs (c :: (lead t ++ mant (tail t))) = lead t ++ digs (mant (tail t)) := by
        have h0 : digs (c :: (lead t ++ mant (tail t))) = digs (lead t ++ mant (tail t)) := by simp [digs, dot_not_D hd]
        rw [h0, digs_append, digs_all hf]
      rw [ef, er, m2, a2, d2]
      cases ht2 : tail t with
      | nil =>
        have e1 : mant ([] : Bytes) = [] := rfl
        have e2 : aft ([] : Bytes) = [] := rfl
        have e3 : digs ([] : Bytes) = [] := rfl
        rw [e1, e2, e3, List.append_nil, ok_point hw hd hf]
        have e4 : fracN (c :: lead t) = (lead t).length := by simp [fracN, hd, digs_all hf]
        rw [e4]
        simp
      | cons x u =>
        have hx := tail_head t ht2
        cases hxe : isE x
        · have e1 : mant (x :: u) = x :: mant u := by simp [mant, hxe]
          have e2 : okB (lead l ++ c :: (lead t ++ x :: mant u)) = false := by
            have h0 : lead l ++ c :: (lead t ++ x :: mant u) = (lead l ++ c :: lead t) ++ x :: mant u := by simp
            rw [h0]
            refine ok_fails_at _ _ _ hx (fun _ => ?_)
            rw [dots_append]
            simp [dots, hd]
            omega
          rw [e1, e2]
          simp [hxe]
        · have e1 : mant (x :: u) = [] := by simp [mant, hxe]
          have e2 : aft (x :: u) = x :: u := by simp [aft, hxe]
          have e3 : digs ([] : Bytes) = [] := rfl
          have e4 : fracN (c :: lead t) = (lead t).length := by simp [fracN, hd, digs_all hf]
          rw [e1, e2, e3, List.append_nil, ok_point hw hd hf, e4]
          simp only [hxe, if_true, expo_eq]
          simp
    · -- no point
      have ef : frac (c :: t) = [] := by simp [frac, hd]
      have er : rest2 (c :: t) = c :: t := by simp [rest2, hd]
      rw [ef, er]
      cases hxe : isE c
      · have e1 : mant (c :: t) = c :: mant t := by simp [mant, hxe]
        have e2 : okB (lead l ++ c :: mant t) = false := ok_fails_at _ _ _ hc (fun h => absurd h hd)
        rw [e1, e2]
        simp [hxe]
      · have e1 : mant (c :: t) = [] := by simp [mant, hxe]
        have e2 : aft (c :: t) = c :: t := by simp [aft, hxe]
        have e3 : digs ([] : Bytes) = [] := rfl
        have e4 : fracN ([] : Bytes) = 0 := rfl
        rw [e1, e2, e3, e4, List.append_nil, ok_digits hw]
        simp only [hxe, if_true, expo_eq]
        simp

end Go.Proofs.Qxb6623503aDoor
