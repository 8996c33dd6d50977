/-
  splitDecimal (7).
-/
import Derived.Test.Qxb6623503aDoorLead
import Derived.Test.Qxb6623503aDoorShelf
import Derived.Lib.AtoiErrMem
namespace Go.Proofs.Qxb6623503aDoor
open Go.RowKit
set_option linter.unusedVariables false

/-! strconv.Atoi at digits. -/
theorem pu_digits (e : Bytes) (acc : Nat) (h : e.all isD = true) : Lib.parseUint10 acc e = .ok (valF acc e) ∨ (Lib.parseUint10 acc e = .range ∧ 18446744073709551616 ≤ valF acc e) := by
  induction e generalizing acc with
  | nil => exact .inl rfl
  | cons c r ih =>
    rw [List.all_cons, Bool.and_eq_true] at h
    have hc := h.1
    simp only [isD, decide_eq_true_eq] at hc
    rw [valF_cons]
    unfold Lib.parseUint10
    rw [if_pos hc]
    have hv := valF_ge r (acc * 10 + dval c)
    by_cases h1 : 1844674407370955162 ≤ acc
    · rw [if_pos h1]
      exact .inr ⟨rfl, by omega⟩
    · rw [if_neg h1]
      by_cases h2 : 18446744073709551616 ≤ acc * 10 + (c.toNat - 48)
      · rw [if_pos h2]
        have : dval c = c.toNat - 48 := rfl
        exact .inr ⟨rfl, by omega⟩
      · rw [if_neg h2]
        exact ih _ h.2

theorem atoi_digits (e : Bytes) (h : e.all isD = true) (hn : e ≠ []) :
    (Lib.atoiAll e = .ok (valF 0 e : Int) ∧ valF 0 e < 9223372036854775808) ∨ (Lib.atoiAll e = .range ∧ Lib.atoiSat e = 9223372036854775807 ∧ 9223372036854775808 ≤ valF 0 e) := by
  cases e with
  | nil => exact absurd rfl hn
  | cons c r =>
    have h0 := h
    rw [List.all_cons, Bool.and_eq_true] at h
    have hc := h.1
    simp only [isD, decide_eq_true_eq] at hc
    have e1 : ¬ (c.toNat = 43 ∨ c.toNat = 45) := by omega
    have e2 : ¬ c.toNat = 45 := by omega
    have hs : Lib.atoiSat (c :: r) = 9223372036854775807 := by
      unfold Lib.atoiSat
      rw [if_neg (by simpa using e2)]
    have hm : Lib.parseMag (c :: r) = Lib.parseUint10 0 (c :: r) := by
      unfold Lib.parseMag
      rw [if_neg (by simp)]
    rcases pu_digits (c :: r) 0 h0 with hp | ⟨hp, hv⟩
    · by_cases hv : 9223372036854775808 ≤ valF 0 (c :: r)
      · refine .inr ⟨?_, hs, hv⟩
        simp only [Lib.atoiAll, if_neg e1, hm, hp]
        rw [if_pos ⟨e2, hv⟩]
      · refine .inl ⟨?_, by omega⟩
        simp only [Lib.atoiAll, if_neg e1, hm, hp]
        rw [if_neg (by omega), if_neg (by omega), if_neg e2]
    · refine .inr ⟨?_, hs, by omega⟩
      simp only [Lib.atoiAll, if_neg e1, hm, hp]

/-- strconv.Atoi at digits: some number, clamped as the specification says; nothing old has turned. -/
theorem atoi_any (e : Bytes) (W : World) (h : e.all isD = true) (hn : e ≠ []) (hl : e.length ≤ 1048576) (ev : Value) (hv : W.cell? ⟨1, 0, none⟩ = some ev) (hev : ev = .nilIface ∨ ∃ te pe, ev = .iface te pe) :
    Calls Tryd.prog 9 #[.string (bs e)] W fun r w' => (∃ (x : Int) (er : Value), r = .returned (.tuple #[.int .i64 x, er]) ∧ 0 ≤ x ∧ Hid (min x 1048576 = ((min (valF 0 e) bnd : Nat) : Int))) ∧ Below W.heap.size W w' := by
  have hb : bnd = 1048576 := rfl
  have hsz := bs_size e
  rcases atoi_digits e h hn with ⟨h1, h2⟩ | ⟨h1, h2, h3⟩
  · refine (Tryd.strconv_Atoi_ok (bs e) (by omega) _ h1 W).mono ?_
    rintro r w' ⟨rfl, hw⟩
    refine ⟨⟨_, _, rfl, by omega, show min ((valF 0 e : Nat) : Int) 1048576 = ((min (valF 0 e) bnd : Nat) : Int) by rw [hb]; omega⟩, ?_⟩
    rcases hw with rfl | ⟨t, rfl⟩
    · exact Below.refl _ _
    · exact Lib.bytesWorld_below _ _ _
  · refine (Tryd.strconv_Atoi_range (bs e) (by omega) h1 ev W hv hev).mono ?_
    rintro r w' ⟨N, rfl, -, -, hbel⟩
    rw [bs_list, h2]
    exact ⟨⟨_, _, rfl, by omega, show min (9223372036854775807 : Int) 1048576 = ((min (valF 0 e) bnd : Nat) : Int) by rw [hb]; omega⟩, hbel⟩

/-! The walk. -/
def tailRes (wh fr r2 : Bytes) : Res :=
  if wh = [] ∧ fr = [] then failed
  else match r2 with
    | [] => (wh ++ fr, 0 - (fr.length : Int), true)
    | c :: t => if isE c = true then expo (wh ++ fr) fr.length t else failed

theorem split_tail (l : Bytes) : splitRes l = tailRes (lead l) (frac (tail l)) (rest2 (tail l)) := rfl

theorem ret_of {R : Res} {a : Bytes} {x : Int} {b : Bool} (h : R = (a, x, b)) : Ending.returned (.tuple #[.string (bs a), .int .i64 x, .bool b]) = .returned (.tuple #[.string (bs R.1), .int .i64 R.2.1, .bool R.2.2]) := by rw [h]
theorem ret_fail {R : Res} (h : R = failed) : Ending.returned (.tuple #[.string ⟨#[]⟩, .int .i64 0, .bool false]) = .returned (.tuple #[.string (bs R.1), .int .i64 R.2.1, .bool R.2.2]) := by rw [h]; rfl

theorem bsl (l : Bytes) : (bs l).toList = l := by rw [Lib.toList_data]; rfl
theorem bsi (c : UInt8) (t : Bytes) (h : 0 < (bs (c :: t)).size) : (((bs (c :: t))[0]'h).toNat : Int) = (c.toNat : Int) := rfl
theorem bsx (c : UInt8) (t : Bytes) : (bs (c :: t)).extract 1 (t.length + 1) = bs t := bs_drop (c :: t) 1
theorem bsa (a b : Bytes) : bs a ++ bs b = bs (a ++ b) := bs_ext (by rw [Joins.data_append]; rfl)

theorem tr_fail0 {wh fr r2 : Bytes} (h1 : wh = []) (h2 : fr = []) : tailRes wh fr r2 = failed := if_pos ⟨h1, h2⟩
theorem tr_nil {wh fr : Bytes} (h : ¬ (wh = [] ∧ fr = [])) : tailRes wh fr [] = (wh ++ fr, 0 - (fr.length : Int), true) := if_neg h
theorem tr_notE {wh fr : Bytes} {c : UInt8} {t : Bytes} (h : ¬ (wh = [] ∧ fr = [])) (hc : isE c = false) : tailRes wh fr (c :: t) = failed := by
  unfold tailRes
  rw [if_neg h]
  simp [hc]
theorem tr_E {wh fr : Bytes} {c : UInt8} {t : Bytes} (h : ¬ (wh = [] ∧ fr = [])) (hc : isE c = true) : tailRes wh fr (c :: t) = expo (wh ++ fr) fr.length t := by
  unfold tailRes
  rw [if_neg h]
  simp [hc]
theorem ex_fail {d : Bytes} {n : Nat} {t : Bytes} (h : lead (unsigned t) = [] ∨ ¬ tail (unsigned t) = []) : expo d n t = failed := if_pos h
theorem ex_ok {d : Bytes} {n : Nat} {t : Bytes} (h1 : ¬ lead (unsigned t) = []) (h2 : tail (unsigned t) = []) : expo d n t = (d, signed (negOf t) (min (valF 0 (unsigned t)) bnd : Nat) - n, true) :=
  if_neg (fun h => h.elim h1 (fun h => h h2))

theorem ret_at {R : Res} {a : Bytes} {x : Int} {b : Bool} {s : ByteArray} (h : R = (a, x, b)) (hs : s = bs a) : Ending.returned (.tuple #[.string s, .int .i64 x, .bool b]) = .returned (.tuple #[.string (bs R.1), .int .i64 R.2.1, .bool R.2.2]) := by rw [h, hs]

end Go.Proofs.Qxb6623503aDoor
