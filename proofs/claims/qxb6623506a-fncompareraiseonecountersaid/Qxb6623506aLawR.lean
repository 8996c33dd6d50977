/-
  FnCompareRaiseOneCounter (4): the walk.
-/
import Derived.Test.Qxb6623506aRaiseW
import Derived.Test.Qxb6623506aLawD
namespace Go.Proofs.Qxb6623506a
open Go.RowKit
set_option linter.unusedVariables false
set_option linter.unusedSectionVars false

def pOf (R : Vec) : Nat → Int := fun i => (R.getD i (0, 0)).1
def cOf (R : Vec) : Nat → Int := fun i => (R.getD i (0, 0)).2

theorem vlist_shift (p c p2 c2 : Nat → Int) : ∀ (n i j : Nat), (∀ t, t < n → p (i + t) = p2 (j + t) ∧ c (i + t) = c2 (j + t)) → vlist p c n i = vlist p2 c2 n j
  | 0, _, _, _ => rfl
  | n + 1, i, j, h => by
    have h0 := h 0 (by omega)
    show (p i, c i) :: vlist p c n (i + 1) = (p2 j, c2 j) :: vlist p2 c2 n (j + 1)
    rw [vlist_shift p c p2 c2 n (i + 1) (j + 1) (fun t ht => by
      have := h (t + 1) (by omega)
      rw [show i + 1 + t = i + (t + 1) by omega, show j + 1 + t = j + (t + 1) by omega]
      exact this)]
    have e1 : p i = p2 j := h0.1
    have e2 : c i = c2 j := h0.2
    rw [e1, e2]

theorem vlist_of (R : Vec) : vlist (pOf R) (cOf R) R.length 0 = R := by
  induction R with
  | nil => rfl
  | cons a r ih =>
    show (a.1, a.2) :: vlist (pOf (a :: r)) (cOf (a :: r)) r.length (0 + 1) = a :: r
    rw [vlist_shift (pOf (a :: r)) (cOf (a :: r)) (pOf r) (cOf r) r.length (0 + 1) 0 (fun t _ => by
      rw [show 0 + 1 + t = t + 1 by omega, show 0 + t = t by omega]
      exact ⟨rfl, rfl⟩), ih]

theorem rows_of {w W : World} {g1 g2 cap m : Nat} {R : Vec} (h : StR w W g1 g2 cap m R) : RowOf W (some ⟨g1, 0, none⟩) m (ints (pOf R)) ∧ RowOf W (some ⟨g2, 0, none⟩) m (cnts (cOf R)) ∧ R.length = m := by
  have hl : R.length = m := by
    have := h.1.1
    simpa [fsts] using this
  refine ⟨fun i hi => ⟨g1, 0, rfl, ?_⟩, fun i hi => ⟨g2, 0, rfl, ?_⟩, hl⟩
  · rw [show 0 + i = i by omega, h.1.cellAt i (by omega)]
    simp [fsts, ints, pOf, List.getD, show i < R.length by omega]
  · rw [show 0 + i = i by omega, h.2.1.cellAt i (by omega)]
    simp [snds, cnts, cOf, List.getD, show i < R.length by omega]

section
variable (p c : Nat → Int) (n : Nat) (h : WF p c n) (hc : ∀ i, 0 ≤ c i ∧ c i ≤ 18446744073709551615)
include h hc
theorem cmp_self : cmpF p c n p c n = 2 := by
  unfold cmpF
  rw [above_iff _ _ (rising_of p c n h) (pos_of p c n h (fun i _ => (hc i).1)) (rising_of p c n h), self_below _ (rising_of p c n h)]
  rfl
theorem vlist_small : ∀ a ∈ vlist p c n 0, a.2 ≤ 18446744073709551615 := by
  intro a ha
  obtain ⟨j, _, _, rfl⟩ := mem_vlist p c a n 0 ha
  exact (hc j).2
theorem cmp_raise (q d : Int) (hd : 0 < d) (ho : cAt p c n 0 q + d ≤ 18446744073709551615) (R : Vec) (hR : R = raiseL q d false (vlist p c n 0)) :
    cmpF p c n (pOf R) (cOf R) R.length = 0 ∧ cmpF (pOf R) (cOf R) R.length p c n = 1 := by
  have hv := rising_of p c n h
  have hp := pos_of p c n h (fun i _ => (hc i).1)
  rw [cAt_at] at ho
  rw [raise_ins q d hd _ hv hp ho] at hR
  have hr : Rising R := by rw [hR]; exact rising_ins q d _ hv
  have hq : Pos R := by rw [hR]; exact pos_ins q d hd _ hp
  have e1 : aboveF R (vlist p c n 0) = true := by rw [above_iff _ _ hr hq hv, hR]; exact ins_above q d hd _ hv hp
  have e2 : aboveF (vlist p c n 0) R = false := by rw [above_iff _ _ hv hp hr, hR]; exact ins_not_below q d hd _ hv hp
  unfold cmpF
  rw [vlist_of, e1, e2]
  exact ⟨rfl, rfl⟩
theorem cmp_raise0 (q : Int) (R : Vec) (hR : R = raiseL q 0 false (vlist p c n 0)) :
    cmpF p c n (pOf R) (cOf R) R.length = 2 ∧ cmpF (pOf R) (cOf R) R.length p c n = 2 := by
  rw [raise_none q _ (pos_of p c n h (fun i _ => (hc i).1)) (vlist_small p c n h hc)] at hR
  have e := cmp_self p c n h hc
  unfold cmpF at e ⊢
  rw [vlist_of, hR]
  exact ⟨e, e⟩
end

set_option maxRecDepth 100000 in
set_option maxHeartbeats 4000000 in
theorem lawR (a0 a1 : Option Addr) (n0 k0 n1 k1 : Nat) (p c : Nat → Int) (q d : Int) (w : World) (h0 : RowOf w a0 n0 (ints p)) (h1 : RowOf w a1 n1 (cnts c)) (m0 : n0 ≤ maxLen) (m1 : n1 ≤ maxLen) (hc : ∀ i, 0 ≤ c i ∧ c i ≤ 18446744073709551615) (hd1 : 0 ≤ d) (hd2 : d ≤ 18446744073709551615) :
    Calls Try.prog 4 #[.slice a0 n0 k0, .slice a1 n1 k1, .int .i64 q, .int .u64 d] w fun e w' => e = .returned (.bool true) ∧ Below w.heap.size w w' := by
  have H5 := bytesR_any a0 a1 n0 k0 n1 k1 q d w m0 m1
  have HCC : Hid (∀ i, 0 ≤ c i ∧ c i ≤ 18446744073709551615) := hc
  unfold maxLen at m0 m1
  clear hc
  go_enter Try.func4, Try.ntmps4
  go_wp2_with fail
  refine H5.mono ?_
  rintro e w' ⟨⟨b, rfl⟩, hw⟩
  obtain rfl := hw.symm
  cases b
  · go_wp2_with fail
    go_ret
    exact ⟨rfl, Below.refl _ _⟩
  by_cases g0 : (4096 : Int) < (n0 : Int)
  · go_wp2_with fail
    go_ret
    exact ⟨rfl, Below.refl _ _⟩
  by_cases g1 : (4096 : Int) < (n1 : Int)
  · go_wp2_with fail
    go_ret
    exact ⟨rfl, Below.refl _ _⟩
  go_wp2_with fail
  refine (wf_any a0 a1 n0 k0 n1 k1 p c w h0 h1 (by omega) (by omega)).mono ?_
  rintro e w1 ⟨⟨b, rfl, HV⟩, r, hw⟩
  have HB0 : Hid (Below w.heap.size w w1) := by rw [hw]; exact below_drewN (Below.refl _ _) _
  clear hw H5
  cases b
  · go_wp2_with fail
    go_ret
    exact ⟨rfl, HB0.out⟩
  obtain ⟨en, HV1⟩ := HV.out rfl
  have HV1' : Hid (WF p c n0) := HV1
  subst en
  have hl : n0 ≤ 4096 := by omega
  have HB1 := HB0
  have R0 : Hid (RowOf w1 a0 n0 (ints p)) := h0.below HB0.out
  have R1 : Hid (RowOf w1 a1 n0 (cnts c)) := h1.below HB0.out
  have H11 := counterAt_any a0 a1 n0 k0 n0 k1 p c q w1 R0.out R1.out (by omega) (by omega) (by omega)
  obtain ⟨C, HC⟩ : ∃ C, Hid (cAt p c n0 0 q = C) := ⟨_, rfl⟩
  rw [HC.out] at H11
  clear HV HV1 h0 h1 g0 g1 HB0 m0 m1
  go_wp2_with fail
  refine H11.mono ?_
  rintro e w' ⟨rfl, hw⟩
  obtain rfl := hw.symm
  by_cases hov : 18446744073709551615 - d < C
  · go_wp2_with fail
    go_ret
    exact ⟨rfl, HB1.out⟩
  have HOV : Hid (cAt p c n0 0 q + d ≤ 18446744073709551615) := by
    show _ ≤ _
    rw [HC.out]
    omega
  clear H11
  have hnil := fun w => run_neq_slice_nil_any (P := Try.prog) w 22 3 a0 n0 k0 0 0 Try.underlying22
  go_upto_if 42 with fail
  go_cut [0, 9] from 41 (fun sx sy wx => Hid (Copied w1 n0 (ints p) sx wx))
  case first =>
    clear hnil
    cases a0 with
    | none =>
      go_wp2_with fail
      go_meet
      exact ⟨none, k0, rfl, R0.out, Below.refl _ _⟩
    | some x =>
      have hmk := run_make_row' (P := Try.prog) 22 3 (.int .i64 0) 8 Try.underlying22 info3 rfl .i64 .i64 n0 (by omega) (by omega)
      obtain ⟨w2, hcp, hC⟩ := copy_fresh 22 3 3 Try.underlying22 size3 (.int .i64 0) (ints p) n0 k0 x w1 R0.out (one_ints _ _)
      have HCo : Hid (Copied w1 n0 (ints p) (.slice (some ⟨w1.heap.size, 0, none⟩) n0 n0) w2) := hC
      clear hC
      go_wp2_with fail
      go_meet
      exact HCo
  case rest =>
    obtain ⟨a0, k0, rfl, Ra, hb⟩ := hcut.out
    have HB2 : Hid (Below w.heap.size w wc) := HB1.out.trans (hb.mono HB1.out.size)
    replace R0 : Hid (RowOf wc a0 n0 (ints p)) := Ra
    replace R1 : Hid (RowOf wc a1 n0 (cnts c)) := R1.out.below hb
    clear hnil hcut Ra hb HB1
    have hnil := fun w => run_neq_slice_nil_any (P := Try.prog) w 23 28 a1 n0 k1 0 0 Try.underlying23
    go_upto_if 51 with fail
    go_cut [1, 10] from 50 (fun sx sy wx => Hid (Copied wc n0 (cnts c) sx wx))
    case first =>
      clear hnil
      cases a1 with
      | none =>
        go_wp2_with fail
        go_meet
        exact ⟨none, k1, rfl, R1.out, Below.refl _ _⟩
      | some x =>
        have hmk := run_make_row' (P := Try.prog) 23 28 (.int .u64 0) 8 Try.underlying23 info28 rfl .i64 .i64 n0 (by omega) (by omega)
        obtain ⟨w2, hcp, hC⟩ := copy_fresh 23 28 3 Try.underlying23 size28 (.int .u64 0) (cnts c) n0 k1 x wc R1.out (one_cnts _ _)
        have HCo : Hid (Copied wc n0 (cnts c) (.slice (some ⟨wc.heap.size, 0, none⟩) n0 n0) w2) := hC
        clear hC
        go_wp2_with fail
        go_meet
        exact HCo
    case rest =>
      obtain ⟨a1, k1, rfl, Ra, hb⟩ := hcut.out
      have HB3 : Hid (Below w.heap.size w wc) := HB2.out.trans (hb.mono HB2.out.size)
      replace R0 : Hid (RowOf wc a0 n0 (ints p)) := R0.out.below hb
      replace R1 : Hid (RowOf wc a1 n0 (cnts c)) := Ra
      clear hnil hcut Ra hb HB2
      have H12 := raise_any a0 a1 n0 k0 k1 p c q d wc R0.out R1.out hl
      go_wp2_with fail
      refine H12.mono ?_
      rintro e wa hout
      obtain ⟨g1, g2, m, rfl, hm, hst⟩ := hout
      obtain ⟨hr1, hr2, hlen⟩ := rows_of hst
      have HBa : Hid (Below wc.heap.size wc wa) := hst.2.2.1
      obtain ⟨R, HR⟩ : ∃ R, Hid (R = raiseL q d false (vlist p c n0 0)) := ⟨_, rfl⟩
      rw [← HR.out] at hr1 hr2 hlen
      have hla : n0 ≤ 4097 := by omega
      have hlb : m ≤ 4097 := by omega
      have Q0 : Hid (RowOf wa a0 n0 (ints p)) := R0.out.below HBa.out
      have Q1 : Hid (RowOf wa a1 n0 (cnts c)) := R1.out.below HBa.out
      have J1 : ∀ wx, Below wa.heap.size wa wx → _ := fun wx hx => zzcompare_any a0 a1 a0 a1 n0 k0 k1 n0 k0 k1 p c p c wx (Q0.out.below hx) (Q1.out.below hx) (Q0.out.below hx) (Q1.out.below hx) hla hla
      have J2 : ∀ wx, Below wa.heap.size wa wx → _ := fun wx hx => zzcompare_any a0 a1 (some ⟨g1, 0, none⟩) (some ⟨g2, 0, none⟩) n0 k0 k1 m (n0 + 1) (n0 + 1) p c (pOf R) (cOf R) wx (Q0.out.below hx) (Q1.out.below hx) (hr1.below hx) (hr2.below hx) hla hlb
      have J3 : ∀ wx, Below wa.heap.size wa wx → _ := fun wx hx => zzcompare_any (some ⟨g1, 0, none⟩) (some ⟨g2, 0, none⟩) a0 a1 m (n0 + 1) (n0 + 1) n0 k0 k1 (pOf R) (cOf R) p c wx (hr1.below hx) (hr2.below hx) (Q0.out.below hx) (Q1.out.below hx) hlb hla
      rw [cmp_self p c n0 HV1'.out HCC.out] at J1
      by_cases hz : d = 0
      · have e2 := cmp_raise0 p c n0 HV1'.out HCC.out q R (by rw [HR.out, hz])
        rw [hlen] at e2
        rw [e2.1] at J2
        rw [e2.2] at J3
        have hzb : (d == 0) = true := by simpa using hz
        have HBw : Hid (Below w.heap.size w wa) := HB3.out.trans (HBa.out.mono HB3.out.size)
        clear e2 hr1 hr2 hlen Q0 Q1 R0 R1 HR HV1' HCC HOV HC hst H12 hov hz
        have J1' := J1 wa (Below.refl _ _)
        clear J1
        go_wp2_with fail
        refine J1'.mono ?_
        rintro e wb ⟨rfl, hbb⟩
        have HBb : Hid (Below wa.heap.size wa wb) := hbb
        have J2' := J2 wb hbb
        clear J1' J2 hbb
        go_wp2_with fail
        refine J2'.mono ?_
        rintro e wd ⟨rfl, hbd⟩
        have HBd : Hid (Below wa.heap.size wa wd) := HBb.out.trans (hbd.mono HBb.out.size)
        have J3' := J3 wd HBd.out
        clear J2' J3 hbd HBb
        go_wp2_with fail
        refine J3'.mono ?_
        rintro e we ⟨rfl, hbe⟩
        have HBe : Hid (Below w.heap.size w we) := HBw.out.trans ((HBd.out.trans (hbe.mono HBd.out.size)).mono HBw.out.size)
        clear J3' hbe HBd HBw
        go_wp2
        go_ret
        exact ⟨rfl, HBe.out⟩
      · have e2 := cmp_raise p c n0 HV1'.out HCC.out q d (by omega) HOV.out R HR.out
        rw [hlen] at e2
        rw [e2.1] at J2
        rw [e2.2] at J3
        have hzb : (d == 0) = false := by simpa using hz
        have HBw : Hid (Below w.heap.size w wa) := HB3.out.trans (HBa.out.mono HB3.out.size)
        clear e2 hr1 hr2 hlen Q0 Q1 R0 R1 HR HV1' HCC HOV HC hst H12 hov hz
        have J1' := J1 wa (Below.refl _ _)
        clear J1
        go_wp2_with fail
        refine J1'.mono ?_
        rintro e wb ⟨rfl, hbb⟩
        have HBb : Hid (Below wa.heap.size wa wb) := hbb
        have J2' := J2 wb hbb
        clear J1' J2 hbb
        go_wp2_with fail
        refine J2'.mono ?_
        rintro e wd ⟨rfl, hbd⟩
        have HBd : Hid (Below wa.heap.size wa wd) := HBb.out.trans (hbd.mono HBb.out.size)
        have J3' := J3 wd HBd.out
        clear J2' J3 hbd HBb
        go_wp2_with fail
        refine J3'.mono ?_
        rintro e we ⟨rfl, hbe⟩
        have HBe : Hid (Below w.heap.size w we) := HBw.out.trans ((HBd.out.trans (hbe.mono HBd.out.size)).mono HBw.out.size)
        clear J3' hbe HBd HBw
        go_wp2
        go_ret
        exact ⟨rfl, HBe.out⟩

end Go.Proofs.Qxb6623506a
