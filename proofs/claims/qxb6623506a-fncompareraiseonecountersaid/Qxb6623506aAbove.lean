/-
  above (16), Compare (15), ZZCompare (8).
-/
import Derived.Test.Qxb6623506aVec
namespace Go.Proofs.Qxb6623506a
open Go.RowKit
set_option linter.unusedVariables false

/-- The pairs lie in block g. -/
def VecIn (w : World) (g n : Nat) (p c : Nat → Int) : Prop := g < w.heap.size ∧ ∀ i, i < n → w.cell? ⟨g, i * 2, none⟩ = some (.int .i64 (p i)) ∧ w.cell? ⟨g, i * 2 + 1, none⟩ = some (.int .u64 (c i))

theorem VecIn.below {w w' : World} {g n : Nat} {p c : Nat → Int} (h : VecIn w g n p c) (hb : Below w.heap.size w w') : VecIn w' g n p c := by
  refine ⟨Nat.lt_of_lt_of_le h.1 hb.size, fun i hi => ?_⟩
  obtain ⟨h1, h2⟩ := h.2 i hi
  exact ⟨(hb.cell (p := ⟨g, i * 2, none⟩) h.1).trans h1, (hb.cell (p := ⟨g, i * 2 + 1, none⟩) h.1).trans h2⟩

def vlist (p c : Nat → Int) : Nat → Nat → Vec
  | 0, _ => []
  | n + 1, i => (p i, c i) :: vlist p c n (i + 1)

theorem vlist_at (p c : Nat → Int) (n i : Nat) (h : i < n) : vlist p c (n - i) i = (p i, c i) :: vlist p c (n - (i + 1)) (i + 1) := by
  rw [show n - i = (n - (i + 1)) + 1 by omega]
  rfl
theorem vlist_end (p c : Nat → Int) (n i : Nat) (h : n ≤ i) : vlist p c (n - i) i = [] := by
  rw [show n - i = 0 by omega]
  rfl

theorem above_nil (w : Vec) : aboveF [] w = false := rfl
theorem above_none (a : Int × Int) (v w : Vec) (h : skip a.1 w = []) : aboveF (a :: v) w = true := by
  rw [aboveF, h]
theorem above_some (a b : Int × Int) (v w w2 : Vec) (h : skip a.1 w = b :: w2) : aboveF (a :: v) w = if a.1 < b.1 ∨ b.2 < a.2 then true else aboveF v w2 := by
  rw [aboveF, h]
theorem skip_less (x : Int) (b : Int × Int) (w : Vec) (h : b.1 < x) : skip x (b :: w) = skip x w := by
  simp [skip, List.dropWhile, h]
theorem skip_stop (x : Int) (b : Int × Int) (w : Vec) (h : ¬ b.1 < x) : skip x (b :: w) = b :: w := by
  simp [skip, List.dropWhile, h]

theorem box_at (w : World) (a b : Value) (t : TypeId) (j : Nat) (v : Value) (h : #[a, b][j]? = some v) : (w.alloc (Obj.cells #[a, b] t)).cell? ⟨w.heap.size, j, none⟩ = some v := by
  exact (World.cell?_alloc_at _ _ _ _ rfl).trans h

theorem below_drewN {B : Nat} {a w : World} (h : Below B a w) (n : Nat) : Below B a (w.drewN n) := ⟨h.os, h.tape, h.output, h.size, h.block⟩
theorem below_drawn {B : Nat} {a w wx : World} (h : Below B a w) (hx : ∃ m, wx = w.drewN m) : Below B a wx := by
  obtain ⟨m, rfl⟩ := hx
  exact below_drewN h m

set_option maxHeartbeats 4000000 in
theorem above_any (g g2 n k0 n2 k2 : Nat) (p c p2 c2 : Nat → Int) (w : World) (h0 : VecIn w g n p c) (h2 : VecIn w g2 n2 p2 c2) (hl : n ≤ 4097) (hl2 : n2 ≤ 4097) :
    Calls Try.prog 16 #[.slice (some ⟨g, 0, none⟩) n k0, .slice (some ⟨g2, 0, none⟩) n2 k2] w fun e w' => e = .returned (.bool (aboveF (vlist p c n 0) (vlist p2 c2 n2 0))) ∧ Below w.heap.size w w' := by
  go_enter Try.func16, Try.ntmps16
  go_wp2
  go_loopw [5, 10] (fun jv iv wr => ∃ i j : Nat, i ≤ n ∧ j ≤ n2 ∧ iv = .int .i64 i ∧ jv = .int .i64 j ∧ Hid (Below w.heap.size w wr) ∧ Hid (aboveF (vlist p c n 0) (vlist p2 c2 n2 0) = aboveF (vlist p c (n - i) i) (vlist p2 c2 (n2 - j) j))) (fun _ iv _ => n - (intOf iv).toNat)
  case atStart => exact ⟨0, 0, Nat.zero_le _, Nat.zero_le _, rfl, rfl, Below.refl _ _, rfl⟩
  case round =>
    obtain ⟨i, j0, hi, hj0, rfl, rfl, HB, HA⟩ := hrel
    by_cases hlt : i < n
    · have hV := h0.below HB.out
      have hW := h2.below HB.out
      obtain ⟨hp, hc⟩ := hV.2 i hlt
      go_wp2
      have HW1 : Hid (VecIn (wr.alloc (Obj.cells #[Value.int IntKind.i64 (p i), Value.int IntKind.u64 (c i)] 39)) g2 n2 p2 c2) := hW.below ((Below.refl _ _).alloc (Nat.le_refl _) _)
      have HB1 : Hid (Below w.heap.size w (wr.alloc (Obj.cells #[Value.int IntKind.i64 (p i), Value.int IntKind.u64 (c i)] 39))) := HB.out.alloc HB.out.size _
      have HC0 : Hid ((wr.alloc (Obj.cells #[Value.int IntKind.i64 (p i), Value.int IntKind.u64 (c i)] 39)).cell? ⟨wr.heap.size, 0, none⟩ = some (.int .i64 (p i))) := box_at wr _ _ 39 0 _ rfl
      have HC1 : Hid ((wr.alloc (Obj.cells #[Value.int IntKind.i64 (p i), Value.int IntKind.u64 (c i)] 39)).cell? ⟨wr.heap.size, 1, none⟩ = some (.int .u64 (c i))) := box_at wr _ _ 39 1 _ rfl
      have HV : Hid (vlist p c (n - i) i = (p i, c i) :: vlist p c (n - (i + 1)) (i + 1)) := vlist_at p c n i hlt
      clear hV hW hp hc HB h0 h2
      generalize wr.alloc (Obj.cells #[Value.int IntKind.i64 (p i), Value.int IntKind.u64 (c i)] 39) = W1 at HW1 HB1 HC0 HC1 ⊢
      generalize wr.heap.size = B at HC0 HC1 ⊢
      go_loopw [5] (fun jv wx => ∃ j : Nat, j ≤ n2 ∧ jv = .int .i64 j ∧ Hid (skip (p i) (vlist p2 c2 (n2 - j0) j0) = skip (p i) (vlist p2 c2 (n2 - j) j)) ∧ Hid (∃ m, wx = W1.drewN m)) (fun jv _ => n2 - (intOf jv).toNat)
      case atStart => exact ⟨j0, hj0, rfl, rfl, 0, rfl⟩
      case round =>
        obtain ⟨j, hj, rfl, HK, HX⟩ := hrel
        obtain ⟨m, hwx⟩ := HX.out
        have hC0 : wr.cell? ⟨B, 0, none⟩ = some (.int .i64 (p i)) := by rw [hwx]; exact HC0.out
        have hC1 : wr.cell? ⟨B, 1, none⟩ = some (.int .u64 (c i)) := by rw [hwx]; exact HC1.out
        by_cases hjl : j < n2
        · obtain ⟨hq, hd⟩ := HW1.out.2 j hjl
          have hP : wr.cell? ⟨g2, j * 2, none⟩ = some (.int .i64 (p2 j)) := by rw [hwx]; exact hq
          have hD : wr.cell? ⟨g2, j * 2 + 1, none⟩ = some (.int .u64 (c2 j)) := by rw [hwx]; exact hd
          have HL : Hid (vlist p2 c2 (n2 - j) j = (p2 j, c2 j) :: vlist p2 c2 (n2 - (j + 1)) (j + 1)) := vlist_at p2 c2 n2 j hjl
          clear hq hd hwx
          have hjI : (j : Int) < (n2 : Int) := by omega
          have hjne : ((j : Int) == (n2 : Int)) = false := by simp; omega
          by_cases hless : p2 j < p i
          · have HK2 : Hid (skip (p i) (vlist p2 c2 (n2 - j0) j0) = skip (p i) (vlist p2 c2 (n2 - (j + 1)) (j + 1))) := by
              show _ = _
              rw [HK.out, HL.out, skip_less _ _ _ hless]
            go_wp2_with fail
            go_quiet (fail)
            go_wp2_with fail
            go_roundw
            case rel => exact ⟨j + 1, by omega, by go_num, HK2, drawn_more HX.out _⟩
            case measure => simp [intOf]; omega
          · have HR : Hid (aboveF (vlist p c n 0) (vlist p2 c2 n2 0) = if p i < p2 j ∨ c2 j < c i then true else aboveF (vlist p c (n - (i + 1)) (i + 1)) (vlist p2 c2 (n2 - (j + 1)) (j + 1))) := by
              show _ = _
              rw [HA.out, HV.out]
              exact above_some (p i, c i) (p2 j, c2 j) _ _ _ (by
                show skip (p i) _ = _
                rw [HK.out, HL.out, skip_stop _ _ _ hless])
            have hless2 : decide (p2 j < p i) = false := by simpa using hless
            by_cases hmore : p i < p2 j
            · have HT : Hid (aboveF (vlist p c n 0) (vlist p2 c2 n2 0) = true) := by
                show _ = _
                rw [HR.out, if_pos (Or.inl hmore)]
              clear HR HK HL HA HV
              go_wp2_with fail
              go_quiet (fail)
              go_wp2_with fail
              go_quiet (fail)
              go_wp2_with fail
              go_ret
              exact ⟨ret_bool HT.out.symm, below_drewN (below_drewN (below_drawn HB1.out HX.out) _) _⟩
            · have hmore2 : decide (p i < p2 j) = false := by simpa using hmore
              by_cases hcc : c2 j < c i
              · have HT : Hid (aboveF (vlist p c n 0) (vlist p2 c2 n2 0) = true) := by
                  show _ = _
                  rw [HR.out, if_pos (Or.inr hcc)]
                clear HR HK HL HA HV
                go_wp2_with fail
                go_quiet (fail)
                go_wp2_with fail
                go_quiet (fail)
                go_wp2_with fail
                go_ret
                exact ⟨ret_bool HT.out.symm, below_drewN (below_drewN (below_drawn HB1.out HX.out) _) _⟩
              · have HT : Hid (aboveF (vlist p c n 0) (vlist p2 c2 n2 0) = aboveF (vlist p c (n - (i + 1)) (i + 1)) (vlist p2 c2 (n2 - (j + 1)) (j + 1))) := by
                  show _ = _
                  rw [HR.out, if_neg (fun h => h.elim hmore hcc)]
                clear HR HK HL HA HV
                go_wp2_with fail
                go_quiet (fail)
                go_wp2_with fail
                go_quiet (fail)
                go_wp2_with fail
                go_roundw
                case rel => exact ⟨i + 1, j + 1, by omega, by omega, by go_num, by go_num, below_drewN (below_drawn HB1.out HX.out) _, HT⟩
                case measure => simp [intOf]; omega
        · have HT : Hid (aboveF (vlist p c n 0) (vlist p2 c2 n2 0) = true) := by
            show _ = _
            rw [HA.out, HV.out]
            exact above_none (p i, c i) _ _ (by
              show skip (p i) _ = _
              rw [HK.out, vlist_end p2 c2 n2 j (by omega)]
              rfl)
          have hj2 : decide ((j : Int) < (n2 : Int)) = false := by simp; omega
          have hj3 : ((j : Int) == (n2 : Int)) = true := by simp; omega
          clear HK HA HV hwx
          go_wp2_with fail
          go_quiet (fail)
          go_wp2_with fail
          go_quiet (fail)
          go_wp2_with fail
          go_ret
          exact ⟨ret_bool HT.out.symm, below_drewN (below_drewN (below_drawn HB1.out HX.out) _) _⟩
    · have HR : Hid (aboveF (vlist p c n 0) (vlist p2 c2 n2 0) = false) := by
        show _ = _
        rw [HA.out, vlist_end p c n i (by omega)]
        rfl
      go_wp2
      go_ret
      exact ⟨ret_bool HR.out.symm, HB.out⟩

set_option maxHeartbeats 1000000 in
theorem compare_any (g g2 n k0 n2 k2 : Nat) (p c p2 c2 : Nat → Int) (w : World) (h0 : VecIn w g n p c) (h2 : VecIn w g2 n2 p2 c2) (hl : n ≤ 4097) (hl2 : n2 ≤ 4097) :
    Calls Try.prog 15 #[.slice (some ⟨g, 0, none⟩) n k0, .slice (some ⟨g2, 0, none⟩) n2 k2] w fun e w' => e = .returned (.int .i64 (compareF (aboveF (vlist p2 c2 n2 0) (vlist p c n 0)) (aboveF (vlist p c n 0) (vlist p2 c2 n2 0)))) ∧ Below w.heap.size w w' := by
  have H1 := above_any g2 g n2 k2 n k0 p2 c2 p c w h2 h0 hl2 hl
  have H2 : ∀ w1, Below w.heap.size w w1 → _ := fun w1 hb => above_any g g2 n k0 n2 k2 p c p2 c2 w1 (h0.below hb) (h2.below hb) hl hl2
  clear h0 h2
  generalize aboveF (vlist p2 c2 n2 0) (vlist p c n 0) = x at H1 ⊢
  generalize aboveF (vlist p c n 0) (vlist p2 c2 n2 0) = y at H2 ⊢
  go_enter Try.func15, Try.ntmps15
  go_wp2_with fail
  refine H1.mono ?_
  rintro e w1 ⟨rfl, hb1⟩
  have H2' := H2 w1 hb1
  have HB1 : Hid (Below w.heap.size w w1) := hb1
  clear H1 H2 hb1
  go_wp2_with fail
  refine H2'.mono ?_
  rintro e w2 ⟨rfl, hb2⟩
  have HB2 : Hid (Below w.heap.size w w2) := HB1.out.trans (hb2.mono HB1.out.size)
  clear H2' HB1 hb2
  cases x <;> cases y <;> (go_wp2; go_ret; exact ⟨rfl, HB2.out⟩)

theorem vecIn_of {w : World} {base g n : Nat} {xs : List Value} {p c : Nat → Int} (h : w.ownsRow base 39 2 (.slice (some ⟨g, 0, none⟩) n n) n xs) (hp : Pairs xs p c n) : VecIn w g n p c := by
  refine ⟨own_lt h, fun i hi => ?_⟩
  obtain ⟨h1, h2⟩ := hp i hi
  exact ⟨(h.cellAt (i * 2) (by omega)).trans h1, (h.cellAt (i * 2 + 1) (by omega)).trans h2⟩

/-- What ZZCompare answers. -/
def cmpF (p c : Nat → Int) (n : Nat) (p2 c2 : Nat → Int) (n2 : Nat) : Int := compareF (aboveF (vlist p2 c2 n2 0) (vlist p c n 0)) (aboveF (vlist p c n 0) (vlist p2 c2 n2 0))

set_option maxHeartbeats 1000000 in
theorem zzcompare_any (a0 a1 a2 a3 : Option Addr) (n k0 k1 n2 k2 k3 : Nat) (p c p2 c2 : Nat → Int) (w : World) (h0 : RowOf w a0 n (ints p)) (h1 : RowOf w a1 n (cnts c)) (h2 : RowOf w a2 n2 (ints p2)) (h3 : RowOf w a3 n2 (cnts c2)) (hl : n ≤ 4097) (hl2 : n2 ≤ 4097) :
    Calls Try.prog 8 #[.slice a0 n k0, .slice a1 n k1, .slice a2 n2 k2, .slice a3 n2 k3] w fun e w' => e = .returned (.int .i64 (cmpF p c n p2 c2 n2)) ∧ Below w.heap.size w w' := by
  go_enter Try.func8, Try.ntmps8
  go_wp2_with fail
  refine (vec_any a0 a1 n k0 k1 p c w h0 h1 hl).mono ?_
  rintro e w1 ⟨rfl, hb1, hs1, xs, ho, hx⟩
  have HB1 : Hid (Below w.heap.size w w1) := hb1
  have HV1 : Hid (VecIn w1 w.heap.size n p c) := vecIn_of ho hx
  have H2 := vec_any a2 a3 n2 k2 k3 p2 c2 w1 (h2.below hb1) (h3.below hb1) hl2
  clear hb1 hs1 ho hx h0 h1 h2 h3
  go_wp2_with fail
  refine H2.mono ?_
  rintro e w2 ⟨rfl, hb2, hs2, ys, ho2, hy⟩
  have HB2 : Hid (Below w.heap.size w w2) := HB1.out.trans (hb2.mono HB1.out.size)
  have HV2 : Hid (VecIn w2 w1.heap.size n2 p2 c2) := vecIn_of ho2 hy
  have HV1' : Hid (VecIn w2 w.heap.size n p c) := HV1.out.below hb2
  have H3 := compare_any w.heap.size w1.heap.size n n n2 n2 p c p2 c2 w2 HV1'.out HV2.out hl hl2
  clear hb2 hs2 ho2 hy H2 HV1 HV2 HV1'
  go_wp2_with fail
  refine H3.mono ?_
  rintro e w3 ⟨rfl, hb3⟩
  have HB3 : Hid (Below w.heap.size w w3) := HB2.out.trans (hb3.mono HB2.out.size)
  clear hb3 H3 HB1 HB2
  go_wp2
  go_ret
  exact ⟨rfl, HB3.out⟩

end Go.Proofs.Qxb6623506a
