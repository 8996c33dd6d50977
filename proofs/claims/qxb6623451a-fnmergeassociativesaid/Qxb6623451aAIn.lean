/-
  FnMergeAssociative (4), within its bounds.
-/
import Derived.Test.Qxb6623451aParts
import Derived.Test.Qxb6623451aSums
import Derived.Test.Qxb6623451aIn
namespace Go.Proofs.Qxb6623451a
open Go.RowKit Go.Maps Go.WideMaps
set_option linter.unusedVariables false

theorem union_none {f g : Lit → Option Bool} : (∀ k, (union f g k).isSome = false) ↔ (∀ k, (f k).isSome = false) ∧ ∀ k, (g k).isSome = false := by
  constructor
  · intro h
    refine ⟨fun k => ?_, fun k => ?_⟩ <;>
      · have := h k
        rw [union_some] at this
        revert this
        cases (g k).isSome <;> simp
  · rintro ⟨h1, h2⟩ k
    rw [union_some, h1, h2]
    rfl

theorem left_eq (f : Lit → Option Bool) (kO kP : Nat → Lit) (vO vP : Nat → Bool) (lO lP : Nat) (k : Lit) : union (union f (memb kO vO 0 lO)) (memb kP vP 0 lP) k = over (over f kO lO) kP lP k := by
  rw [over_eq, over_eq, union_eq, union_eq, memb_some, memb_some]

theorem right_eq (f : Lit → Option Bool) (kO kP : Nat → Lit) (vO vP : Nat → Bool) (lO lP : Nat) (k : Lit) : union f (union (memb kO vO 0 lO) (memb kP vP 0 lP)) k = over (over f kO lO) kP lP k := by
  rw [over_eq, over_eq, union_eq, union_some, memb_some, memb_some]
  cases keyIn kP 0 lP k <;> cases keyIn kO 0 lO k <;> rfl

set_option maxRecDepth 100000 in
set_option maxHeartbeats 16000000 in
theorem assoc_in (a0 a1 a3 a4 a5 a6 a8 a9 a11 : Option Addr) (l0 c0 l1 c1 l3 c3 l4 c4 l5 c5 l6 c6 l8 c8 l9 c9 l11 c11 : Nat) (x2 x7 x10 : Int) (s0 s5 s9 : Nat → ByteArray) (z3 z8 z11 : Nat → Int) (v1 v4 v6 : Nat → Bool) (w : World)
    (n0 : a0 = none → l0 = 0) (n3 : a3 = none → l3 = 0) (n5 : a5 = none → l5 = 0) (n8 : a8 = none → l8 = 0) (n9 : a9 = none → l9 = 0) (n11 : a11 = none → l11 = 0)
    (r0 : RowOf w a0 l0 (fun j => .string (s0 j))) (r1 : RowOf w a1 l1 (fun j => .bool (v1 j))) (r3 : RowOf w a3 l3 (fun j => .int .i64 (z3 j))) (r4 : RowOf w a4 l4 (fun j => .bool (v4 j)))
    (r5 : RowOf w a5 l5 (fun j => .string (s5 j))) (r6 : RowOf w a6 l6 (fun j => .bool (v6 j))) (r8 : RowOf w a8 l8 (fun j => .int .i64 (z8 j))) (r9 : RowOf w a9 l9 (fun j => .string (s9 j))) (r11 : RowOf w a11 l11 (fun j => .int .i64 (z11 j)))
    (g0 : ∀ j, j < l0 → (s0 j).size ≤ maxLen) (g5 : ∀ j, j < l5 → (s5 j).size ≤ maxLen) (g9 : ∀ j, j < l9 → (s9 j).size ≤ maxLen) (g3 : ∀ j, j < l3 → (Lit.int .i64 (z3 j)).wf = true) (g8 : ∀ j, j < l8 → (Lit.int .i64 (z8 j)).wf = true) (g11 : ∀ j, j < l11 → (Lit.int .i64 (z11 j)).wf = true)
    (h0 : l0 ≤ 65536) (h1 : l1 ≤ 65536) (h3 : l3 ≤ 65536) (h4 : l4 ≤ 65536) (h5 : l5 ≤ 65536) (h6 : l6 ≤ 65536) (h8 : l8 ≤ 65536) (h9 : l9 ≤ 65536) (h11 : l11 ≤ 65536)
    (b0 b3 e5 e8 : Bool) (hz0 : a0.isNone = b0) (hz3 : a3.isNone = b3) (hq5 : ((l5 : Int) == 0) = e5) (hq8 : ((l8 : Int) == 0) = e8) :
    Calls Try.prog 4 #[.slice a0 l0 c0, .slice a1 l1 c1, .int .i64 x2, .slice a3 l3 c3, .slice a4 l4 c4, .slice a5 l5 c5, .slice a6 l6 c6, .int .i64 x7, .slice a8 l8 c8, .slice a9 l9 c9, .int .i64 x10, .slice a11 l11 c11] w fun e w' => e = .returned (.bool true) ∧ Below w.heap.size w w' := by
  have q22 : ∀ (w : World) (a : Option Addr) (n c : Nat), (binOp .eql 22 (.slice a n c) (.slice none 0 0)).run Try.prog w = .ok (.bool a.isNone) w := fun w a n c => Lib.run_eql_slice_nil w _ _ a n c 0 0 Try.underlying22
  have q24 : ∀ (w : World) (a : Option Addr) (n c : Nat), (binOp .eql 24 (.slice a n c) (.slice none 0 0)).run Try.prog w = .ok (.bool a.isNone) w := fun w a n c => Lib.run_eql_slice_nil w _ _ a n c 0 0 Try.underlying24
  have H0 : Hid (a0 = none ↔ b0 = true) := by rw [← hz0]; exact Option.isNone_iff_eq_none.symm
  have H3 : Hid (a3 = none ↔ b3 = true) := by rw [← hz3]; exact Option.isNone_iff_eq_none.symm
  have H5 : Hid (l5 = 0 ↔ e5 = true) := by rw [← hq5]; show l5 = 0 ↔ _; simp
  have H8 : Hid (l8 = 0 ↔ e8 = true) := by rw [← hq8]; show l8 = 0 ↔ _; simp
  have hmx : Hid (max x2 (max x7 x10) = max (max x2 x7) x10) := by show max x2 (max x7 x10) = max (max x2 x7) x10; omega
  go_enter Try.func4, Try.ntmps4
  go_wp2_with fail
  refine (bytesA_any a0 a1 a3 a4 a5 a6 a8 a9 a11 l0 c0 l1 c1 l3 c3 l4 c4 l5 c5 l6 c6 l8 c8 l9 c9 l11 c11 x2 x7 x10 s0 s5 s9 w r0 r5 r9 (by unfold maxLen; omega) (by unfold maxLen; omega) (by unfold maxLen; omega)).mono ?_
  rintro e w' ⟨⟨b, rfl⟩, hw⟩
  obtain rfl := hw.symm
  go_wp2_with fail
  all_goals (try (go_ret; exact ⟨rfl, Below.refl _ _⟩))
  refine (adds_any _ a0 l0 c0 s0 _ r0 (by unfold maxLen; omega)).mono ?_
  rintro e w' ⟨⟨t1, rfl⟩, hw⟩
  obtain rfl := hw.symm
  go_wp2_with fail
  refine (adds_any _ a5 l5 c5 s5 _ r5 (by unfold maxLen; omega)).mono ?_
  rintro e w' ⟨⟨t2, rfl⟩, hw⟩
  obtain rfl := hw.symm
  go_wp2_with fail
  refine (adds_any _ a9 l9 c9 s9 _ r9 (by unfold maxLen; omega)).mono ?_
  rintro e w' ⟨⟨t3, rfl⟩, hw⟩
  obtain rfl := hw.symm
  go_wp2_with fail
  all_goals (try (go_ret; exact ⟨rfl, Below.refl _ _⟩))
  have B0 : Below w.heap.size w w := Below.refl _ _
  refine (members_0 a0 a1 l0 c0 l1 c1 l0 s0 v1 w n0 (r0.below B0) (r1.below B0) g0 h0 h1 (Nat.le_refl _)).mono ?_
  rintro e w1 ⟨em, rfl, M1⟩
  have B1 := M1.2.2.2
  go_wp2_with fail
  refine (items_0 a3 a4 l3 c3 l4 c4 l3 z3 v4 w1 n3 (r3.below B1) (r4.below B1) g3 h3 h4 (Nat.le_refl _)).mono ?_
  rintro e w2 ⟨ei, rfl, M2⟩
  obtain ⟨R2, B2⟩ := rec_of M1 M2
  go_wp2_with fail
  refine (members_0 a5 a6 l5 c5 l6 c6 l5 s5 v6 w2 n5 (r5.below B2) (r6.below B2) g5 h5 h6 (Nat.le_refl _)).mono ?_
  rintro e w3 ⟨om, rfl, M3⟩
  have B3 := B2.trans (M3.2.2.2.mono B2.size)
  go_wp2_with fail
  refine (items_0 a8 none l8 c8 0 0 l8 z8 (fun _ => true) w3 n8 (r8.below B3) (row_nil _ _) g8 h8 (by decide) (Nat.le_refl _)).mono ?_
  rintro e w4 ⟨oi, rfl, M4⟩
  obtain ⟨R4, D4⟩ := rec_of M3 M4
  have B4 := B2.trans (D4.mono B2.size)
  go_wp2_with fail
  refine (zz_rec (R2.lift D4 (Nat.le_refl _)) R4 (.inl (Nat.le_refl _)) B4.size (by unfold maxLen; omega) (by unfold maxLen; omega)).mono ?_
  rintro e w5 ⟨wm, wi, rfl, R5, N5m, N5i, D5⟩
  have B5 := B4.trans D5
  have Zem : Hid (em = none ↔ a0 = none) := M1.2.1
  have Zei : Hid (ei = none ↔ a3 = none) := M2.2.1
  clear M1 M2 M3 M4 R2 R4 B1 B2 B3 B4 D4 D5
  go_wp2_with fail
  refine (members_0 a9 none l9 c9 0 0 l9 s9 (fun _ => true) w5 n9 (r9.below B5) (row_nil _ _) g9 h9 (by decide) (Nat.le_refl _)).mono ?_
  rintro e w6 ⟨pm, rfl, M6⟩
  have B6 := B5.trans (M6.2.2.2.mono B5.size)
  go_wp2_with fail
  refine (items_0 a11 none l11 c11 0 0 l11 z11 (fun _ => true) w6 n11 (r11.below B6) (row_nil _ _) g11 h11 (by decide) (Nat.le_refl _)).mono ?_
  rintro e w7 ⟨pi, rfl, M7⟩
  obtain ⟨R7, D7⟩ := rec_of M6 M7
  have B7 := B5.trans (D7.mono B5.size)
  go_wp2_with fail
  refine (zz_rec (R5.lift D7 (Nat.le_refl _)) R7 (.inl (Nat.le_refl _)) B7.size (by unfold maxLen; omega) (by unfold maxLen; omega)).mono ?_
  rintro e w8 ⟨am, ai, rfl, R8, N8m, N8i, D8⟩
  have B8 := B7.trans D8
  have F1 := (nil_iff R8.hm N8m).trans (and_congr_left' (nil_iff R5.hm N5m))
  have F2 := (nil_iff R8.hi3 N8i).trans (and_congr_left' (nil_iff R5.hi3 N5i))
  rw [Zem.out, memb_none (key_s s5), memb_none (key_s s9)] at F1
  rw [Zei.out, memb_none (key_i z8), memb_none (key_i z11)] at F2
  replace F1 : Hid (am = none ↔ a0 = none ∧ l5 = 0 ∧ l9 = 0) := F1.trans and_assoc
  replace F2 : Hid (ai = none ↔ a3 = none ∧ l8 = 0 ∧ l11 = 0) := F2.trans and_assoc
  clear M6 M7 R5 R7 D7 D8 B5 B6 B7 Zem Zei N5m N5i N8m N8i
  go_wp2_with fail
  refine (members_0 a5 a6 l5 c5 l6 c6 l5 s5 v6 w8 n5 (r5.below B8) (r6.below B8) g5 h5 h6 (Nat.le_refl _)).mono ?_
  rintro e w9 ⟨om, rfl, M9⟩
  have B9 := B8.trans (M9.2.2.2.mono B8.size)
  go_wp2_with fail
  refine (items_0 a8 none l8 c8 0 0 l8 z8 (fun _ => true) w9 n8 (r8.below B9) (row_nil _ _) g8 h8 (by decide) (Nat.le_refl _)).mono ?_
  rintro e w10 ⟨oi, rfl, M10⟩
  obtain ⟨R10, D10⟩ := rec_of M9 M10
  have B10 := B8.trans (D10.mono B8.size)
  go_wp2_with fail
  refine (members_0 a9 none l9 c9 0 0 l9 s9 (fun _ => true) w10 n9 (r9.below B10) (row_nil _ _) g9 h9 (by decide) (Nat.le_refl _)).mono ?_
  rintro e w11 ⟨pm, rfl, M11⟩
  have B11 := B10.trans (M11.2.2.2.mono B10.size)
  go_wp2_with fail
  refine (items_0 a11 none l11 c11 0 0 l11 z11 (fun _ => true) w11 n11 (r11.below B11) (row_nil _ _) g11 h11 (by decide) (Nat.le_refl _)).mono ?_
  rintro e w12 ⟨pi, rfl, M12⟩
  obtain ⟨R12, D12'⟩ := rec_of M11 M12
  have D12 := D10.trans (D12'.mono D10.size)
  go_wp2_with fail
  refine (zz_rec (R10.lift D12' (Nat.le_refl _)) R12 (.inl (Nat.le_refl _)) D12.size (by unfold maxLen; omega) (by unfold maxLen; omega)).mono ?_
  rintro e w13 ⟨qm, qi, rfl, R13, N13m, N13i, D13'⟩
  have D13 := D12.trans D13'
  have B13 := B8.trans (D13.mono B8.size)
  have R8a := R8.lift D13 (Nat.le_refl _)
  have S8 := D13.size
  clear M9 M10 M11 M12 R10 R12 D10 D12 D12' D13' B8 B9 B10 B11 R8 N13m N13i D13
  go_wp2_with fail
  refine (members_0 a0 a1 l0 c0 l1 c1 l0 s0 v1 w13 n0 (r0.below B13) (r1.below B13) g0 h0 h1 (Nat.le_refl _)).mono ?_
  rintro e w14 ⟨fm, rfl, M14⟩
  have B14 := B13.trans (M14.2.2.2.mono B13.size)
  go_wp2_with fail
  refine (items_0 a3 a4 l3 c3 l4 c4 l3 z3 v4 w14 n3 (r3.below B14) (r4.below B14) g3 h3 h4 (Nat.le_refl _)).mono ?_
  rintro e w15 ⟨fi, rfl, M15⟩
  obtain ⟨R15, D15⟩ := rec_of M14 M15
  go_wp2_with fail
  refine (zz_rec R15 (R13.lift D15 (Nat.le_refl _)) (.inr (Nat.le_refl _)) D15.size (by unfold maxLen; omega) (by unfold maxLen; omega)).mono ?_
  rintro e w16 ⟨bm, bi, rfl, R16, N16m, N16i, D16'⟩
  rw [hmx.out]
  have D16 := D15.trans D16'
  have B16 := B13.trans (D16.mono B13.size)
  have R8b := R8a.lift D16 S8
  have S16 := Nat.le_trans S8 D16.size
  have Zfm : Hid (fm = none ↔ a0 = none) := M14.2.1
  have Zfi : Hid (fi = none ↔ a3 = none) := M15.2.1
  have F3 := nil_iff R16.hm N16m
  have F4 := nil_iff R16.hi3 N16i
  rw [Zfm.out, union_none, memb_none (key_s s5), memb_none (key_s s9)] at F3
  rw [Zfi.out, union_none, memb_none (key_i z8), memb_none (key_i z11)] at F4
  replace F3 : Hid (bm = none ↔ a0 = none ∧ l5 = 0 ∧ l9 = 0) := F3
  replace F4 : Hid (bi = none ↔ a3 = none ∧ l8 = 0 ∧ l11 = 0) := F4
  clear M14 M15 R15 R13 R8a D15 D16' D16 B13 B14 S8 Zfm Zfi N16m N16i
  go_wp2_with fail
  refine (want_members a0 a5 a9 a1 l0 c0 l5 c5 l9 c9 l1 c1 s0 s5 s9 v1 w16 (r0.below B16) (r1.below B16) (r5.below B16) (r9.below B16) g0 g5 g9 h0 h1 h5 h9).mono ?_
  rintro e w17 ⟨rfl, W17, D17⟩
  have B17 := B16.trans (D17.mono B16.size)
  go_wp2_with fail
  all_goals
    refine (want_items a3 a8 a11 a4 l3 c3 l8 c8 l11 c11 l4 c4 z3 z8 z11 v4 w17 (r3.below B17) (r4.below B17) (r8.below B17) (r11.below B17) g3 g8 g11 h3 h4 h8 h11).mono ?_
    rintro e w18 ⟨rfl, W18, D18⟩
    have B18 := B17.trans (D18.mono B17.size)
    have E18 := D17.trans (D18.mono D17.size)
    have R8c := R8b.lift E18 S16
    have R16a := R16.lift E18 (Nat.le_refl _)
    have W17a := W17.block (D18.block _ W17.lt)
    go_wp2_with fail
    all_goals
      refine (max_any _ _ _).mono ?_
      rintro e w' ⟨rfl, hw⟩
      obtain rfl := hw.symm
      go_wp2_with fail
      refine (max_any _ _ _).mono ?_
      rintro e w' ⟨rfl, hw⟩
      obtain rfl := hw.symm
      go_wp2_with fail
      refine (same_c am _ _ _ _ _ _ a0 a5 a9 l0 c0 l5 c5 l9 c9 s0 s5 s9 _ R8c.hm W17a ?_ (left_eq _ _ _ _ _ _ _) (r0.below B18) (r5.below B18) (r9.below B18) g0 g5 g9
        (fun j hj => want_fst _ _ _ _ _ _ _ j hj (key_s s0)) (fun j hj => want_snd _ _ _ _ _ j hj (key_s s5)) (fun j hj => want_trd _ _ _ j hj (key_s s9)) h0 h5 h9).mono ?_
      · rw [F1.out, H0.out, H5.out]; simp [*]
      rintro e w' ⟨rfl, hw⟩
      obtain rfl := hw.symm
      go_wp2_with fail
      refine (same_c bm _ _ _ _ _ _ a0 a5 a9 l0 c0 l5 c5 l9 c9 s0 s5 s9 _ R16a.hm W17a ?_ (right_eq _ _ _ _ _ _ _) (r0.below B18) (r5.below B18) (r9.below B18) g0 g5 g9
        (fun j hj => want_fst _ _ _ _ _ _ _ j hj (key_s s0)) (fun j hj => want_snd _ _ _ _ _ j hj (key_s s5)) (fun j hj => want_trd _ _ _ j hj (key_s s9)) h0 h5 h9).mono ?_
      · rw [F3.out, H0.out, H5.out]; simp [*]
      rintro e w' ⟨rfl, hw⟩
      obtain rfl := hw.symm
      go_wp2_with fail
      refine (sameI_c ai _ _ _ _ _ _ a3 a8 a11 l3 c3 l8 c8 l11 c11 z3 z8 z11 _ R8c.hi3 W18 ?_ (left_eq _ _ _ _ _ _ _) (r3.below B18) (r8.below B18) (r11.below B18) g3 g8 g11
        (fun j hj => want_fst _ _ _ _ _ _ _ j hj (key_i z3)) (fun j hj => want_snd _ _ _ _ _ j hj (key_i z8)) (fun j hj => want_trd _ _ _ j hj (key_i z11)) h3 h8 h11).mono ?_
      · rw [F2.out, H3.out, H8.out]; simp [*]
      rintro e w' ⟨rfl, hw⟩
      obtain rfl := hw.symm
      go_wp2_with fail
      refine (sameI_c bi _ _ _ _ _ _ a3 a8 a11 l3 c3 l8 c8 l11 c11 z3 z8 z11 _ R16a.hi3 W18 ?_ (right_eq _ _ _ _ _ _ _) (r3.below B18) (r8.below B18) (r11.below B18) g3 g8 g11
        (fun j hj => want_fst _ _ _ _ _ _ _ j hj (key_i z3)) (fun j hj => want_snd _ _ _ _ _ j hj (key_i z8)) (fun j hj => want_trd _ _ _ j hj (key_i z11)) h3 h8 h11).mono ?_
      · rw [F4.out, H3.out, H8.out]; simp [*]
      rintro e w' ⟨rfl, hw⟩
      obtain rfl := hw.symm
      go_wp2_with fail
      go_ret
      exact ⟨rfl, B18⟩

end Go.Proofs.Qxb6623451a
