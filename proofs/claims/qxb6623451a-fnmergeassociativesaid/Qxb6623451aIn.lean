/-
  FnMergeInPiecesEqualsWhole (3), within its bounds.
-/
import Derived.Test.Qxb6623451aParts
import Derived.Test.Qxb6623451aSums
namespace Go.Proofs.Qxb6623451a
open Go.RowKit Go.Maps Go.WideMaps
set_option linter.unusedVariables false

theorem want_fst (kE kO kN : Nat → Lit) (vE : Nat → Bool) (lE lO lN j : Nat) (hj : j < lE) (hk : ∀ i, WideAt.IsKeyLit (kE i)) : (over (over (memb kE vE 0 lE) kO lO) kN lN (kE j)).isSome = true := by
  have h := keyIn_at kE 0 lE j hj (hk _)
  rw [Nat.zero_add] at h
  have h2 := memb_some kE vE 0 lE (kE j)
  rw [h] at h2
  rw [over_eq, over_eq]
  cases keyIn kN 0 lN (kE j) <;> cases keyIn kO 0 lO (kE j) <;> simp [h2]

theorem want_snd (f : Lit → Option Bool) (kO kN : Nat → Lit) (lO lN j : Nat) (hj : j < lO) (hk : ∀ i, WideAt.IsKeyLit (kO i)) : (over (over f kO lO) kN lN (kO j)).isSome = true := by
  have h := keyIn_at kO 0 lO j hj (hk _)
  rw [Nat.zero_add] at h
  rw [over_eq, over_eq, h]
  cases keyIn kN 0 lN (kO j) <;> simp

theorem want_trd (f : Lit → Option Bool) (kN : Nat → Lit) (lN j : Nat) (hj : j < lN) (hk : ∀ i, WideAt.IsKeyLit (kN i)) : (over f kN lN (kN j)).isSome = true := by
  have h := keyIn_at kN 0 lN j hj (hk _)
  rw [Nat.zero_add] at h
  rw [over_eq, h]
  simp

theorem whole_eq (f : Lit → Option Bool) (kO kN : Nat → Lit) (vO : Nat → Bool) (lO : Nat) (k : Lit) : union f (memb kO vO 0 lO) k = over (over f kO lO) kN 0 k := by
  rw [over_eq, over_eq, union_eq, memb_some]
  simp [keyIn]

theorem pieces_eq (f : Lit → Option Bool) (kO kN : Nat → Lit) (vO : Nat → Bool) (lO c : Nat) (hc : c ≤ lO) (k : Lit) : union (union f (memb kO vO 0 c)) (memb kO vO c (lO - c)) k = over (over f kO lO) kN 0 k := by
  have h := keyIn_split kO 0 c (lO - c) k
  rw [show c + (lO - c) = lO from by omega, Nat.zero_add] at h
  rw [over_eq, over_eq, union_eq, union_eq, memb_some, memb_some, h]
  cases keyIn kO 0 c k <;> cases keyIn kO c (lO - c) k <;> simp [keyIn]

theorem row_nil (w : World) (f : Nat → Value) : RowOf w none 0 f := fun i hi => absurd hi (Nat.not_lt_zero _)

theorem members_0 (a av : Option Addr) (len cap lv cv hi : Nat) (ss : Nat → ByteArray) (vs : Nat → Bool) (w : World) (hn : a = none → len = 0)
    (hr : RowOf w a len (fun j => .string (ss j))) (hv : RowOf w av lv (fun j => .bool (vs j))) (hs : ∀ j, j < len → (ss j).size ≤ maxLen) (hl : len ≤ 65536) (hlv : lv ≤ 65536) (hhi : hi ≤ len) :
    Calls Try.prog 8 #[.slice a len cap, .slice av lv cv, .int .i64 0, .int .i64 hi] w
      fun e w' => ∃ m, e = .returned (.map m) ∧ Made 9 w w' m hi (memb (strKeys ss) (valAt vs lv) 0 hi) (a = none) :=
  members_c a av len cap lv cv 0 hi ss vs w hn hr hv hs hl hlv (Nat.zero_le _) hhi

theorem items_0 (a av : Option Addr) (len cap lv cv hi : Nat) (ss : Nat → Int) (vs : Nat → Bool) (w : World) (hn : a = none → len = 0)
    (hr : RowOf w a len (fun j => .int .i64 (ss j))) (hv : RowOf w av lv (fun j => .bool (vs j))) (hs : ∀ j, j < len → (Lit.int .i64 (ss j)).wf = true) (hl : len ≤ 65536) (hlv : lv ≤ 65536) (hhi : hi ≤ len) :
    Calls Try.prog 9 #[.slice a len cap, .slice av lv cv, .int .i64 0, .int .i64 hi] w
      fun e w' => ∃ m, e = .returned (.map m) ∧ Made 3 w w' m hi (memb (intKeys ss) (valAt vs lv) 0 hi) (a = none) :=
  items_c a av len cap lv cv 0 hi ss vs w hn hr hv hs hl hlv (Nat.zero_le _) hhi

set_option maxRecDepth 100000 in
set_option maxHeartbeats 8000000 in
theorem pieces_in (a0 a1 a3 a4 a5 a6 a8 a9 : Option Addr) (l0 c0 l1 c1 l3 c3 l4 c4 l5 c5 l6 c6 l8 c8 l9 c9 : Nat) (x2 x7 : Int) (cm ci : Nat) (s0 s5 : Nat → ByteArray) (z3 z8 : Nat → Int) (v1 v4 v6 v9 : Nat → Bool) (w : World)
    (n0 : a0 = none → l0 = 0) (n3 : a3 = none → l3 = 0) (n5 : a5 = none → l5 = 0) (n8 : a8 = none → l8 = 0)
    (r0 : RowOf w a0 l0 (fun j => .string (s0 j))) (r1 : RowOf w a1 l1 (fun j => .bool (v1 j))) (r3 : RowOf w a3 l3 (fun j => .int .i64 (z3 j))) (r4 : RowOf w a4 l4 (fun j => .bool (v4 j)))
    (r5 : RowOf w a5 l5 (fun j => .string (s5 j))) (r6 : RowOf w a6 l6 (fun j => .bool (v6 j))) (r8 : RowOf w a8 l8 (fun j => .int .i64 (z8 j))) (r9 : RowOf w a9 l9 (fun j => .bool (v9 j)))
    (g0 : ∀ j, j < l0 → (s0 j).size ≤ maxLen) (g5 : ∀ j, j < l5 → (s5 j).size ≤ maxLen) (g3 : ∀ j, j < l3 → (Lit.int .i64 (z3 j)).wf = true) (g8 : ∀ j, j < l8 → (Lit.int .i64 (z8 j)).wf = true)
    (h0 : l0 ≤ 65536) (h1 : l1 ≤ 65536) (h3 : l3 ≤ 65536) (h4 : l4 ≤ 65536) (h5 : l5 ≤ 65536) (h6 : l6 ≤ 65536) (h8 : l8 ≤ 65536) (h9 : l9 ≤ 65536) (hcm : cm ≤ l5) (hci : ci ≤ l8)
    (b0 b3 : Bool) (hz0 : a0.isNone = b0) (hz3 : a3.isNone = b3) :
    Calls Try.prog 3 #[.slice a0 l0 c0, .slice a1 l1 c1, .int .i64 x2, .slice a3 l3 c3, .slice a4 l4 c4, .slice a5 l5 c5, .slice a6 l6 c6, .int .i64 x7, .slice a8 l8 c8, .slice a9 l9 c9, .int .i64 cm, .int .i64 ci] w fun e w' => e = .returned (.bool true) ∧ Below w.heap.size w w' := by
  have q22 : ∀ (w : World) (a : Option Addr) (n c : Nat), (binOp .eql 22 (.slice a n c) (.slice none 0 0)).run Try.prog w = .ok (.bool a.isNone) w := fun w a n c => Lib.run_eql_slice_nil w _ _ a n c 0 0 Try.underlying22
  have q24 : ∀ (w : World) (a : Option Addr) (n c : Nat), (binOp .eql 24 (.slice a n c) (.slice none 0 0)).run Try.prog w = .ok (.bool a.isNone) w := fun w a n c => Lib.run_eql_slice_nil w _ _ a n c 0 0 Try.underlying24
  have H0 : Hid (a0 = none ↔ b0 = true) := by rw [← hz0]; exact Option.isNone_iff_eq_none.symm
  have H3 : Hid (a3 = none ↔ b3 = true) := by rw [← hz3]; exact Option.isNone_iff_eq_none.symm
  have hmx : max (max x2 x7) x7 = max x2 x7 := by omega
  go_enter Try.func3, Try.ntmps3
  go_wp2_with fail
  refine (bytesP_any a0 a1 a3 a4 a5 a6 a8 a9 l0 c0 l1 c1 l3 c3 l4 c4 l5 c5 l6 c6 l8 c8 l9 c9 x2 x7 cm ci s0 s5 w r0 r5 (by unfold maxLen; omega) (by unfold maxLen; omega)).mono ?_
  rintro e w' ⟨⟨b, rfl⟩, hw⟩
  obtain rfl := hw.symm
  go_wp2_with fail
  all_goals (try (go_ret; exact ⟨rfl, Below.refl _ _⟩))
  refine (adds_any _ a0 l0 c0 s0 _ r0 (by unfold maxLen; omega)).mono ?_
  rintro e w' ⟨⟨t1, rfl⟩, hw⟩
  obtain rfl := hw.symm
  go_wp2_with fail
  refine (adds_any _ a5 l5 c5 s5 _ r5 (by unfold maxLen; omega)).mono ?_
  rintro e w' ⟨⟨t2, rfl⟩, hw⟩
  obtain rfl := hw.symm
  go_wp2_with fail
  all_goals (try (go_ret; exact ⟨rfl, Below.refl _ _⟩))
  refine (members_0 a0 a1 l0 c0 l1 c1 l0 s0 v1 w n0 r0 r1 g0 h0 h1 (Nat.le_refl _)).mono ?_
  rintro e w1 ⟨em, rfl, M1⟩
  have B1 := M1.2.2.2
  go_wp2_with fail
  refine (items_0 a3 a4 l3 c3 l4 c4 l3 z3 v4 w1 n3 (r3.below B1) (r4.below B1) g3 h3 h4 (Nat.le_refl _)).mono ?_
  rintro e w2 ⟨ei, rfl, M2⟩
  obtain ⟨R2, B2⟩ := rec_of M1 M2
  go_wp2_with fail
  refine (members_0 a5 a6 l5 c5 l6 c6 l5 s5 v6 w2 n5 (r5.below B2) (r6.below B2) g5 h5 h6 (Nat.le_refl _)).mono ?_
  rintro e w3 ⟨om, rfl, M3⟩
  have B3 := B2.trans (M3.2.2.2.mono B2.size)
  go_wp2_with fail
  refine (items_0 a8 a9 l8 c8 l9 c9 l8 z8 v9 w3 n8 (r8.below B3) (r9.below B3) g8 h8 h9 (Nat.le_refl _)).mono ?_
  rintro e w4 ⟨oi, rfl, M4⟩
  obtain ⟨R4, B4'⟩ := rec_of M3 M4
  have B4 := B2.trans (B4'.mono B2.size)
  go_wp2_with fail
  refine (zz_rec (R2.lift B4' (Nat.le_refl _)) R4 (.inl (Nat.le_refl _)) B4.size (by unfold maxLen; omega) (by unfold maxLen; omega)).mono ?_
  rintro e w5 ⟨wm, wi, rfl, R5, N5m, N5i, B5'⟩
  have B5 := B4.trans B5'
  have Zem : Hid (em = none ↔ a0 = none) := M1.2.1
  have Zei : Hid (ei = none ↔ a3 = none) := M2.2.1
  clear M1 M2 M3 M4 R2 R4 B1 B2 B3 B4 B4' B5'
  go_wp2_with fail
  refine (members_0 a0 a1 l0 c0 l1 c1 l0 s0 v1 w5 n0 (r0.below B5) (r1.below B5) g0 h0 h1 (Nat.le_refl _)).mono ?_
  rintro e w6 ⟨fm, rfl, M6⟩
  have D6 := M6.2.2.2
  have B6 := B5.trans (D6.mono B5.size)
  go_wp2_with fail
  refine (items_0 a3 a4 l3 c3 l4 c4 l3 z3 v4 w6 n3 (r3.below B6) (r4.below B6) g3 h3 h4 (Nat.le_refl _)).mono ?_
  rintro e w7 ⟨fi, rfl, M7⟩
  obtain ⟨R7, D7⟩ := rec_of M6 M7
  have B7 := B5.trans (D7.mono B5.size)
  go_wp2_with fail
  refine (members_0 a5 a6 l5 c5 l6 c6 cm s5 v6 w7 n5 (r5.below B7) (r6.below B7) g5 h5 h6 hcm).mono ?_
  rintro e w8 ⟨om, rfl, M8⟩
  have B8 := B7.trans (M8.2.2.2.mono B7.size)
  go_wp2_with fail
  refine (items_0 a8 a9 l8 c8 l9 c9 ci z8 v9 w8 n8 (r8.below B8) (r9.below B8) g8 h8 h9 hci).mono ?_
  rintro e w9 ⟨oi, rfl, M9⟩
  obtain ⟨R9, D9'⟩ := rec_of M8 M9
  have D9 := D7.trans (D9'.mono D7.size)
  go_wp2_with fail
  refine (zz_rec (R7.lift D9' (Nat.le_refl _)) R9 (.inl (Nat.le_refl _)) D9.size (by unfold maxLen; omega) (by unfold maxLen; omega)).mono ?_
  rintro e w10 ⟨qm, qi, rfl, R10, N10m, N10i, D10'⟩
  have D10 := D9.trans D10'
  have B10 := B5.trans (D10.mono B5.size)
  have Zfm : Hid (fm = none ↔ a0 = none) := M6.2.1
  have Zfi : Hid (fi = none ↔ a3 = none) := M7.2.1
  clear M6 M7 M8 M9 R7 R9 D6 D7 D9 D9' D10' B6 B7 B8
  go_wp2_with fail
  refine (members_c a5 a6 l5 c5 l6 c6 cm l5 s5 v6 w10 n5 (r5.below B10) (r6.below B10) g5 h5 h6 hcm (Nat.le_refl _)).mono ?_
  rintro e w11 ⟨om, rfl, M11⟩
  have B11 := B10.trans (M11.2.2.2.mono B10.size)
  go_wp2_with fail
  refine (items_c a8 a9 l8 c8 l9 c9 ci l8 z8 v9 w11 n8 (r8.below B11) (r9.below B11) g8 h8 h9 hci (Nat.le_refl _)).mono ?_
  rintro e w12 ⟨oi, rfl, M12⟩
  obtain ⟨R12, D12'⟩ := rec_of M11 M12
  have D12 := D10.trans (D12'.mono D10.size)
  go_wp2_with fail
  refine (zz_rec (R10.lift D12' (Nat.le_refl _)) R12 (.inl (Nat.le_refl _)) D12.size (by unfold maxLen; omega) (by unfold maxLen; omega)).mono ?_
  rintro e w13 ⟨pm, pi, rfl, R13, N13m, N13i, D13'⟩
  have D13 := D12.trans D13'
  have B13 := B5.trans (D13.mono B5.size)
  have R5' := R5.lift D13 (Nat.le_refl _)
  have S5 := D13.size
  clear M11 M12 R12 D12 D12' D13' D10 B10 B11 D13
  have F1 := nil_iff R5'.hm N5m
  have F2 := nil_iff R5'.hi3 N5i
  have F3 := (nil_iff R13.hm N13m).trans (and_congr_left' (nil_iff R10.hm N10m))
  have F4 := (nil_iff R13.hi3 N13i).trans (and_congr_left' (nil_iff R10.hi3 N10i))
  rw [Zem.out, memb_none (key_s s5)] at F1
  rw [Zei.out, memb_none (key_i z8)] at F2
  rw [Zfm.out, memb_none (key_s s5), memb_none (key_s s5)] at F3
  rw [Zfi.out, memb_none (key_i z8), memb_none (key_i z8)] at F4
  replace F1 : Hid (wm = none ↔ a0 = none ∧ l5 = 0) := F1
  replace F2 : Hid (wi = none ↔ a3 = none ∧ l8 = 0) := F2
  replace F3 : Hid (pm = none ↔ a0 = none ∧ l5 = 0) := F3.trans (by constructor <;> (rintro h; obtain ⟨h1, h2⟩ := h; first | exact ⟨h1.1, by omega⟩ | exact ⟨⟨h1, by omega⟩, by omega⟩))
  replace F4 : Hid (pi = none ↔ a3 = none ∧ l8 = 0) := F4.trans (by constructor <;> (rintro h; obtain ⟨h1, h2⟩ := h; first | exact ⟨h1.1, by omega⟩ | exact ⟨⟨h1, by omega⟩, by omega⟩))
  clear Zem Zei Zfm Zfi N5m N5i N10m N10i N13m N13i R10 R5 B5
  go_wp2_with fail
  refine (want_members a0 a5 none a1 l0 c0 l5 c5 0 0 l1 c1 s0 s5 (fun _ => ByteArray.empty) v1 w13 (r0.below B13) (r1.below B13) (r5.below B13) (row_nil _ _) g0 g5 (fun j hj => absurd hj (Nat.not_lt_zero _)) h0 h1 h5 (by decide)).mono ?_
  rintro e w14 ⟨rfl, W14, D14⟩
  have B14 := B13.trans (D14.mono B13.size)
  go_wp2_with fail
  all_goals
    refine (want_items a3 a8 none a4 l3 c3 l8 c8 0 0 l4 c4 z3 z8 (fun _ => 0) v4 w14 (r3.below B14) (r4.below B14) (r8.below B14) (row_nil _ _) g3 g8 (fun j hj => absurd hj (Nat.not_lt_zero _)) h3 h4 h8 (by decide)).mono ?_
    rintro e w15 ⟨rfl, W15, D15⟩
    have B15 := B14.trans (D15.mono B14.size)
    have E15 := D14.trans (D15.mono D14.size)
    have R5a := R5'.lift E15 S5
    have R13a := R13.lift E15 (Nat.le_refl _)
    have W14a := W14.block (D15.block _ W14.lt)
    go_wp2_with fail
    all_goals
      refine (max_any _ _ _).mono ?_
      rintro e w' ⟨rfl, hw⟩
      obtain rfl := hw.symm
      go_wp2_with fail
      refine (same_c wm _ _ _ _ _ _ a0 a5 none l0 c0 l5 c5 0 0 s0 s5 (fun _ => ByteArray.empty) _ R5a.hm W14a ?_ (whole_eq _ _ _ _ _) (r0.below B15) (r5.below B15) (row_nil _ _) g0 g5 (fun j hj => absurd hj (Nat.not_lt_zero _))
        (fun j hj => want_fst _ _ _ _ _ _ _ j hj (key_s s0)) (fun j hj => want_snd _ _ _ _ _ j hj (key_s s5)) (fun j hj => absurd hj (Nat.not_lt_zero _)) h0 h5 (by decide)).mono ?_
      · rw [F1.out, H0.out]; simp [*]
      rintro e w' ⟨rfl, hw⟩
      obtain rfl := hw.symm
      go_wp2_with fail
      refine (same_c pm _ _ _ _ _ _ a0 a5 none l0 c0 l5 c5 0 0 s0 s5 (fun _ => ByteArray.empty) _ R13a.hm W14a ?_ (pieces_eq _ _ _ _ _ _ hcm) (r0.below B15) (r5.below B15) (row_nil _ _) g0 g5 (fun j hj => absurd hj (Nat.not_lt_zero _))
        (fun j hj => want_fst _ _ _ _ _ _ _ j hj (key_s s0)) (fun j hj => want_snd _ _ _ _ _ j hj (key_s s5)) (fun j hj => absurd hj (Nat.not_lt_zero _)) h0 h5 (by decide)).mono ?_
      · rw [F3.out, H0.out]; simp [*]
      rintro e w' ⟨rfl, hw⟩
      obtain rfl := hw.symm
      go_wp2_with fail
      refine (sameI_c wi _ _ _ _ _ _ a3 a8 none l3 c3 l8 c8 0 0 z3 z8 (fun _ => 0) _ R5a.hi3 W15 ?_ (whole_eq _ _ _ _ _) (r3.below B15) (r8.below B15) (row_nil _ _) g3 g8 (fun j hj => absurd hj (Nat.not_lt_zero _))
        (fun j hj => want_fst _ _ _ _ _ _ _ j hj (key_i z3)) (fun j hj => want_snd _ _ _ _ _ j hj (key_i z8)) (fun j hj => absurd hj (Nat.not_lt_zero _)) h3 h8 (by decide)).mono ?_
      · rw [F2.out, H3.out]; simp [*]
      rintro e w' ⟨rfl, hw⟩
      obtain rfl := hw.symm
      go_wp2_with fail
      refine (sameI_c pi _ _ _ _ _ _ a3 a8 none l3 c3 l8 c8 0 0 z3 z8 (fun _ => 0) _ R13a.hi3 W15 ?_ (pieces_eq _ _ _ _ _ _ hci) (r3.below B15) (r8.below B15) (row_nil _ _) g3 g8 (fun j hj => absurd hj (Nat.not_lt_zero _))
        (fun j hj => want_fst _ _ _ _ _ _ _ j hj (key_i z3)) (fun j hj => want_snd _ _ _ _ _ j hj (key_i z8)) (fun j hj => absurd hj (Nat.not_lt_zero _)) h3 h8 (by decide)).mono ?_
      · rw [F4.out, H3.out]; simp [*]
      rintro e w' ⟨rfl, hw⟩
      obtain rfl := hw.symm
      go_wp2_with fail
      go_ret
      exact ⟨rfl, B15⟩

end Go.Proofs.Qxb6623451a
