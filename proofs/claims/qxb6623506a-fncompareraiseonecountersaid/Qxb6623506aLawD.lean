/-
  FnCompareMatchesDenseOrder (3): the walk.
-/
import Derived.Test.Qxb6623506aTies
namespace Go.Proofs.Qxb6623506a
open Go.RowKit
set_option linter.unusedVariables false

/-- Behind the copy. -/
def Copied (w : World) (n : Nat) (f : Nat → Value) (v : Value) (w' : World) : Prop := ∃ a k, v = .slice a n k ∧ RowOf w' a n f ∧ Below w.heap.size w w'

theorem rowOf_lay {w : World} {g n : Nat} {f : Nat → Value} {t : TypeId} (h : w.heap[g]? = some (.cells (lay f n).toArray t (0, 0))) : RowOf w (some ⟨g, 0, none⟩) n f := by
  intro i hi
  refine ⟨g, 0, rfl, ?_⟩
  have h2 : (lay f n)[i]? = some (f i) := by simp [lay, hi]
  simp [World.cell?, h, h2]

theorem copy_fresh (T E ty : TypeId) (hu : Try.prog.underlying T = some (.slice E)) (hs : (Try.prog.info? E).map (·.size) = some 1) (z : Value) (f : Nat → Value) (n k : Nat) (x : Addr) (w : World) (h : RowOf w (some x) n f) (h1 : ∀ v ∈ lay f n, v.oneCell' = true) :
    ∃ w2, (Builtin.copy_ #[T, T] ty #[.slice (some ⟨w.heap.size, 0, none⟩) n n, .slice (some x) n k]).run Try.prog (w.alloc (.cells (madeCells #[z] n) E)) = .ok (goInt n) w2 ∧ Copied w n f (.slice (some ⟨w.heap.size, 0, none⟩) n n) w2 := by
  have hb : Below w.heap.size w (w.alloc (.cells (madeCells #[z] n) E)) := (Below.refl _ _).alloc (Nat.le_refl _) _
  have hg := made_row w z n E
  have hr := run_copy_row (P := Try.prog) (w.alloc (.cells (madeCells #[z] n) E)) T T ty E w.heap.size 0 n n x n k _ E (lay f n) hu hs hg (by rw [lay_length]; exact (Nat.min_self n).symm)
    (fun j v hj => by
      obtain ⟨hlt, rfl⟩ := lay_at f n j v hj
      obtain ⟨b, off, e, hc⟩ := (h.below hb) j hlt
      obtain rfl := Option.some.inj e
      rw [Addr.add_lit]
      exact hc) (by rw [lay_length]; simp) h1
  rw [lay_length] at hr
  refine ⟨_, hr, _, _, rfl, ?_, below_setRow hb (Nat.le_refl _) _⟩
  have hq := setRow_heap (w.alloc (.cells (madeCells #[z] n) E)) w.heap.size _ (((List.replicate n z).toArray.toList.take 0 ++ lay f n ++ (List.replicate n z).toArray.toList.drop (0 + n)).toArray) E _ hg
  have e : ((List.replicate n z).toArray.toList.take 0 ++ lay f n ++ (List.replicate n z).toArray.toList.drop (0 + n)) = lay f n := by simp
  rw [e] at hq
  rw [e]
  exact rowOf_lay hq

set_option maxRecDepth 100000 in
set_option maxHeartbeats 4000000 in
theorem lawD (a0 a1 a2 a3 : Option Addr) (n0 k0 n1 k1 n2 k2 n3 k3 : Nat) (p c p2 c2 : Nat → Int) (w : World) (h0 : RowOf w a0 n0 (ints p)) (h1 : RowOf w a1 n1 (cnts c)) (h2 : RowOf w a2 n2 (ints p2)) (h3 : RowOf w a3 n3 (cnts c2)) (m0 : n0 ≤ maxLen) (m1 : n1 ≤ maxLen) (m2 : n2 ≤ maxLen) (m3 : n3 ≤ maxLen) (hc : ∀ i, 0 ≤ c i) (hc2 : ∀ i, 0 ≤ c2 i) :
    Calls Try.prog 3 #[.slice a0 n0 k0, .slice a1 n1 k1, .slice a2 n2 k2, .slice a3 n3 k3] w fun e w' => e = .returned (.bool true) ∧ Below w.heap.size w w' := by
  have H5 := bytesD_any a0 a1 a2 a3 n0 k0 n1 k1 n2 k2 n3 k3 w m0 m1 m2 m3
  have M : Hid (n0 ≤ maxLen ∧ n1 ≤ maxLen ∧ n2 ≤ maxLen ∧ n3 ≤ maxLen) := ⟨m0, m1, m2, m3⟩
  clear m0 m1 m2 m3
  go_enter Try.func3, Try.ntmps3
  go_wp2_with fail
  refine H5.mono ?_
  rintro e w' ⟨⟨b, rfl⟩, hw⟩
  obtain rfl := hw.symm
  cases b
  · go_wp2_with fail
    go_ret
    exact ⟨rfl, Below.refl _ _⟩
  unfold maxLen at M
  by_cases g0 : (4096 : Int) < (n0 : Int)
  · go_wp2_with fail
    go_ret
    exact ⟨rfl, Below.refl _ _⟩
  by_cases g1 : (4096 : Int) < (n1 : Int)
  · go_wp2_with fail
    go_ret
    exact ⟨rfl, Below.refl _ _⟩
  by_cases g2 : (4096 : Int) < (n2 : Int)
  · go_wp2_with fail
    go_ret
    exact ⟨rfl, Below.refl _ _⟩
  by_cases g3 : (4096 : Int) < (n3 : Int)
  · go_wp2_with fail
    go_ret
    exact ⟨rfl, Below.refl _ _⟩
  go_wp2_with fail
  refine (wf_any a0 a1 n0 k0 n1 k1 p c w h0 h1 (by omega) (by omega)).mono ?_
  rintro e w' ⟨⟨b, rfl, HV⟩, r, hw⟩
  cases b
  · obtain rfl := hw.symm
    go_wp2_with fail
    go_ret
    exact ⟨rfl, below_drewN (Below.refl _ _) _⟩
  obtain ⟨en, HV1⟩ := HV.out rfl
  have HV1' : Hid (WF p c n0) := HV1
  subst en
  have HB0 : Hid (Below w.heap.size w w') := by rw [hw]; exact below_drewN (Below.refl _ _) _
  clear HV HV1 hw H5
  go_wp2_with fail
  refine (wf_any a2 a3 n2 k2 n3 k3 p2 c2 w' (h2.below HB0.out) (h3.below HB0.out) (by omega) (by omega)).mono ?_
  rintro e w1 ⟨⟨b, rfl, HV⟩, r2, hw⟩
  have HB1 : Hid (Below w.heap.size w w1) := by rw [hw]; exact below_drewN HB0.out _
  clear hw
  cases b
  · go_wp2_with fail
    go_ret
    exact ⟨rfl, HB1.out⟩
  obtain ⟨en, HV2⟩ := HV.out rfl
  have HV2' : Hid (WF p2 c2 n2) := HV2
  subst en
  have hl : n0 ≤ 4096 := by omega
  have hl2 : n2 ≤ 4096 := by omega
  have R0 : Hid (RowOf w1 a0 n0 (ints p)) := h0.below HB1.out
  have R1 : Hid (RowOf w1 a1 n0 (cnts c)) := h1.below HB1.out
  have R2 : Hid (RowOf w1 a2 n2 (ints p2)) := h2.below HB1.out
  have R3 : Hid (RowOf w1 a3 n2 (cnts c2)) := h3.below HB1.out
  clear HV HV2 h0 h1 h2 h3 g0 g1 g2 g3 HB0 M
  have hnil := fun w => run_neq_slice_nil_any (P := Try.prog) w 22 3 a0 n0 k0 0 0 Try.underlying22
  go_upto_if 51 with fail
  go_cut [0, 9] from 50 (fun sx sy wx => Hid (Copied w1 n0 (ints p) sx wx))
  case first =>
    clear hnil
    cases a0 with
    | none =>
      go_wp2_with fail
      go_meet
      exact ⟨none, k0, rfl, R0.out, Below.refl _ _⟩
    | some x =>
      have hmk := run_make_row' (P := Try.prog) 22 3 (.int .i64 0) 8 Try.underlying22 info3 rfl .i64 .i64 n0 (by omega) (by omega)
      obtain ⟨w2, hcp, hC⟩ := copy_fresh 22 3 3 Try.underlying22 size3 (.int .i64 0) (ints p) n0 k0 x w1 R0.out (one_ints _ _)
      have HC : Hid (Copied w1 n0 (ints p) (.slice (some ⟨w1.heap.size, 0, none⟩) n0 n0) w2) := hC
      clear hC
      go_wp2_with fail
      go_meet
      exact HC
  case rest =>
    obtain ⟨a0, k0, rfl, Ra, hb⟩ := hcut.out
    have HB2 : Hid (Below w.heap.size w wc) := HB1.out.trans (hb.mono HB1.out.size)
    replace R0 : Hid (RowOf wc a0 n0 (ints p)) := Ra
    replace R1 : Hid (RowOf wc a1 n0 (cnts c)) := R1.out.below hb
    replace R2 : Hid (RowOf wc a2 n2 (ints p2)) := R2.out.below hb
    replace R3 : Hid (RowOf wc a3 n2 (cnts c2)) := R3.out.below hb
    clear hnil hcut Ra hb HB1
    have hnil := fun w => run_neq_slice_nil_any (P := Try.prog) w 23 28 a1 n0 k1 0 0 Try.underlying23
    go_upto_if 60 with fail
    go_cut [1, 10] from 59 (fun sx sy wx => Hid (Copied wc n0 (cnts c) sx wx))
    case first =>
      clear hnil
      cases a1 with
      | none =>
        go_wp2_with fail
        go_meet
        exact ⟨none, k1, rfl, R1.out, Below.refl _ _⟩
      | some x =>
        have hmk := run_make_row' (P := Try.prog) 23 28 (.int .u64 0) 8 Try.underlying23 info28 rfl .i64 .i64 n0 (by omega) (by omega)
        obtain ⟨w2, hcp, hC⟩ := copy_fresh 23 28 3 Try.underlying23 size28 (.int .u64 0) (cnts c) n0 k1 x wc R1.out (one_cnts _ _)
        have HC : Hid (Copied wc n0 (cnts c) (.slice (some ⟨wc.heap.size, 0, none⟩) n0 n0) w2) := hC
        clear hC
        go_wp2_with fail
        go_meet
        exact HC
    case rest =>
      obtain ⟨a1, k1, rfl, Ra, hb⟩ := hcut.out
      have HB3 : Hid (Below w.heap.size w wc) := HB2.out.trans (hb.mono HB2.out.size)
      replace R0 : Hid (RowOf wc a0 n0 (ints p)) := R0.out.below hb
      replace R1 : Hid (RowOf wc a1 n0 (cnts c)) := Ra
      replace R2 : Hid (RowOf wc a2 n2 (ints p2)) := R2.out.below hb
      replace R3 : Hid (RowOf wc a3 n2 (cnts c2)) := R3.out.below hb
      clear hnil hcut Ra hb HB2
      have hnil := fun w => run_neq_slice_nil_any (P := Try.prog) w 22 3 a2 n2 k2 0 0 Try.underlying22
      go_upto_if 69 with fail
      go_cut [2, 11] from 68 (fun sx sy wx => Hid (Copied wc n2 (ints p2) sx wx))
      case first =>
        clear hnil
        cases a2 with
        | none =>
          go_wp2_with fail
          go_meet
          exact ⟨none, k2, rfl, R2.out, Below.refl _ _⟩
        | some x =>
          have hmk := run_make_row' (P := Try.prog) 22 3 (.int .i64 0) 8 Try.underlying22 info3 rfl .i64 .i64 n2 (by omega) (by omega)
          obtain ⟨w2, hcp, hC⟩ := copy_fresh 22 3 3 Try.underlying22 size3 (.int .i64 0) (ints p2) n2 k2 x wc R2.out (one_ints _ _)
          have HC : Hid (Copied wc n2 (ints p2) (.slice (some ⟨wc.heap.size, 0, none⟩) n2 n2) w2) := hC
          clear hC
          go_wp2_with fail
          go_meet
          exact HC
      case rest =>
        obtain ⟨a2, k2, rfl, Ra, hb⟩ := hcut.out
        have HB4 : Hid (Below w.heap.size w wc) := HB3.out.trans (hb.mono HB3.out.size)
        replace R0 : Hid (RowOf wc a0 n0 (ints p)) := R0.out.below hb
        replace R1 : Hid (RowOf wc a1 n0 (cnts c)) := R1.out.below hb
        replace R2 : Hid (RowOf wc a2 n2 (ints p2)) := Ra
        replace R3 : Hid (RowOf wc a3 n2 (cnts c2)) := R3.out.below hb
        clear hnil hcut Ra hb HB3
        have hnil := fun w => run_neq_slice_nil_any (P := Try.prog) w 23 28 a3 n2 k3 0 0 Try.underlying23
        go_upto_if 78 with fail
        go_cut [3, 12] from 77 (fun sx sy wx => Hid (Copied wc n2 (cnts c2) sx wx))
        case first =>
          clear hnil
          cases a3 with
          | none =>
            go_wp2_with fail
            go_meet
            exact ⟨none, k3, rfl, R3.out, Below.refl _ _⟩
          | some x =>
            have hmk := run_make_row' (P := Try.prog) 23 28 (.int .u64 0) 8 Try.underlying23 info28 rfl .i64 .i64 n2 (by omega) (by omega)
            obtain ⟨w2, hcp, hC⟩ := copy_fresh 23 28 3 Try.underlying23 size28 (.int .u64 0) (cnts c2) n2 k3 x wc R3.out (one_cnts _ _)
            have HC : Hid (Copied wc n2 (cnts c2) (.slice (some ⟨wc.heap.size, 0, none⟩) n2 n2) w2) := hC
            clear hC
            go_wp2_with fail
            go_meet
            exact HC
        case rest =>
          obtain ⟨a3, k3, rfl, Ra, hb⟩ := hcut.out
          have HB5 : Hid (Below w.heap.size w wc) := HB4.out.trans (hb.mono HB4.out.size)
          replace R0 : Hid (RowOf wc a0 n0 (ints p)) := R0.out.below hb
          replace R1 : Hid (RowOf wc a1 n0 (cnts c)) := R1.out.below hb
          replace R2 : Hid (RowOf wc a2 n2 (ints p2)) := R2.out.below hb
          replace R3 : Hid (RowOf wc a3 n2 (cnts c2)) := Ra
          clear hnil hcut Ra hb HB4
          have hla : n0 ≤ 4097 := by omega
          have hlb : n2 ≤ 4097 := by omega
          have H7 := dense_any a0 a1 a2 a3 n0 k0 k1 n2 k2 k3 p c p2 c2 wc R0.out R1.out R2.out R3.out hl hl2
          have H8 : ∀ wx, Below wc.heap.size wc wx → _ := fun wx hx => zzcompare_any a0 a1 a2 a3 n0 k0 k1 n2 k2 k3 p c p2 c2 wx (R0.out.below hx) (R1.out.below hx) (R2.out.below hx) (R3.out.below hx) hla hlb
          have H9 : ∀ wx, Below wc.heap.size wc wx → _ := fun wx hx => zzcompare_any a2 a3 a0 a1 n2 k2 k3 n0 k0 k1 p2 c2 p c wx (R2.out.below hx) (R3.out.below hx) (R0.out.below hx) (R1.out.below hx) hlb hla
          rw [cmp_dense p c p2 c2 n0 n2 HV1'.out (fun i _ => hc i) HV2'.out (fun i _ => hc2 i)] at H8
          rw [cmp_mirror p c p2 c2 n0 n2 HV1'.out (fun i _ => hc i) HV2'.out (fun i _ => hc2 i)] at H9
          generalize denseF (allAt p c p2 c2 n2 n0 0) (allAt p2 c2 p c n0 n2 0) = o at H7 H8 H9
          clear R0 R1 R2 R3 HV1' HV2' hc hc2
          go_wp2_with fail
          refine H7.mono ?_
          rintro e wa ⟨rfl, ra, hwa⟩
          have hba : Below wc.heap.size wc wa := by rw [hwa]; exact below_drewN (Below.refl _ _) _
          have H8' := H8 wa hba
          have HBa : Hid (Below wc.heap.size wc wa) := hba
          clear H7 H8 hwa hba
          go_wp2_with fail
          refine H8'.mono ?_
          rintro e wb ⟨rfl, hbb⟩
          have HBb : Hid (Below wc.heap.size wc wb) := HBa.out.trans (hbb.mono HBa.out.size)
          have H9' := H9 wb HBb.out
          clear H8' H9 hbb HBa
          go_wp2_with fail
          refine H9'.mono ?_
          rintro e wd ⟨rfl, hbd⟩
          have HBd : Hid (Below w.heap.size w wd) := HB5.out.trans ((HBb.out.trans (hbd.mono HBb.out.size)).mono HB5.out.size)
          clear H9' hbd HBb
          have H10 := mirror_any o wd
          go_wp2_with fail
          refine H10.mono ?_
          rintro e we ⟨rfl, hwe⟩
          obtain rfl := hwe.symm
          go_wp2
          go_ret
          exact ⟨rfl, HBd.out⟩

end Go.Proofs.Qxb6623506a
