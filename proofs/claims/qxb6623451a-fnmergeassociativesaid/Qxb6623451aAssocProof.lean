/-
  Rows.FnMergeAssociativeSaid
-/
import Derived.Test.Qxb6623451aOpen
import Derived.Test.Qxb6623451aAIn
import Derived.Test.Qxb6623451aAOut
namespace Go.Proofs.Qxb6623451a
namespace Assoc
open Go.ChangeShapes Go.WideShapes Go.ChangeAt Go.RowKit
set_option linter.unusedVariables false

/-- THE WALK, whatever the input. -/
theorem assoc_all (a0 a1 a3 a4 a5 a6 a8 a9 a11 : Option Addr) (l0 c0 l1 c1 l3 c3 l4 c4 l5 c5 l6 c6 l8 c8 l9 c9 l11 c11 : Nat) (x2 x7 x10 : Int) (s0 s5 s9 : Nat → ByteArray) (z3 z8 z11 : Nat → Int) (v1 v4 v6 : Nat → Bool) (w : World)
    (n0 : a0 = none → l0 = 0) (n3 : a3 = none → l3 = 0) (n5 : a5 = none → l5 = 0) (n8 : a8 = none → l8 = 0) (n9 : a9 = none → l9 = 0) (n11 : a11 = none → l11 = 0)
    (r0 : RowOf w a0 l0 (fun j => .string (s0 j))) (r1 : RowOf w a1 l1 (fun j => .bool (v1 j))) (r3 : RowOf w a3 l3 (fun j => .int .i64 (z3 j))) (r4 : RowOf w a4 l4 (fun j => .bool (v4 j)))
    (r5 : RowOf w a5 l5 (fun j => .string (s5 j))) (r6 : RowOf w a6 l6 (fun j => .bool (v6 j))) (r8 : RowOf w a8 l8 (fun j => .int .i64 (z8 j))) (r9 : RowOf w a9 l9 (fun j => .string (s9 j))) (r11 : RowOf w a11 l11 (fun j => .int .i64 (z11 j)))
    (g0 : ∀ j, j < l0 → (s0 j).size ≤ maxLen) (g5 : ∀ j, j < l5 → (s5 j).size ≤ maxLen) (g9 : ∀ j, j < l9 → (s9 j).size ≤ maxLen) (g3 : ∀ j, j < l3 → (Lit.int .i64 (z3 j)).wf = true) (g8 : ∀ j, j < l8 → (Lit.int .i64 (z8 j)).wf = true) (g11 : ∀ j, j < l11 → (Lit.int .i64 (z11 j)).wf = true) (m0 : l0 ≤ maxLen) (m1 : l1 ≤ maxLen) (m3 : l3 ≤ maxLen) (m4 : l4 ≤ maxLen) (m5 : l5 ≤ maxLen) (m6 : l6 ≤ maxLen) (m8 : l8 ≤ maxLen) (m9 : l9 ≤ maxLen) (m11 : l11 ≤ maxLen) :
    Calls Try.prog 4 #[.slice a0 l0 c0, .slice a1 l1 c1, .int .i64 x2, .slice a3 l3 c3, .slice a4 l4 c4, .slice a5 l5 c5, .slice a6 l6 c6, .int .i64 x7, .slice a8 l8 c8, .slice a9 l9 c9, .int .i64 x10, .slice a11 l11 c11] w fun e w' => e = .returned (.bool true) ∧ Below w.heap.size w w' := by
  by_cases h : l0 ≤ 65536 ∧ l1 ≤ 65536 ∧ l3 ≤ 65536 ∧ l4 ≤ 65536 ∧ l5 ≤ 65536 ∧ l6 ≤ 65536 ∧ l8 ≤ 65536 ∧ l9 ≤ 65536 ∧ l11 ≤ 65536
  · obtain ⟨h0, h1, h3, h4, h5, h6, h8, h9, h11⟩ := h
    exact assoc_in a0 a1 a3 a4 a5 a6 a8 a9 a11 l0 c0 l1 c1 l3 c3 l4 c4 l5 c5 l6 c6 l8 c8 l9 c9 l11 c11 x2 x7 x10 s0 s5 s9 z3 z8 z11 v1 v4 v6 w n0 n3 n5 n8 n9 n11 r0 r1 r3 r4 r5 r6 r8 r9 r11 g0 g5 g9 g3 g8 g11 h0 h1 h3 h4 h5 h6 h8 h9 h11 _ _ _ _ rfl rfl rfl rfl
  · refine (assoc_out a0 a1 a3 a4 a5 a6 a8 a9 a11 l0 c0 l1 c1 l3 c3 l4 c4 l5 c5 l6 c6 l8 c8 l9 c9 l11 c11 x2 x7 x10 s0 s5 s9 w r0 r5 r9 m0 m1 m3 m4 m5 m6 m8 m9 m11 h).mono ?_
    rintro e w' ⟨rfl, rfl⟩
    exact ⟨rfl, Below.refl _ _⟩

set_option maxRecDepth 100000 in
theorem lifted (os : Os) (started : os.Started) (H : Type) (enc : TypeId × Value → H) :
    ReturnsInHanded {} Try.checked os 4 .any (Rows.fnMergeAssociativeSpec.pre6 enc Try.prog Try.f4 Rows.fnMergeAssociativeRow.domain false) (Rows.fnMergeAssociativeSpec.post enc Try.prog Try.f4 false true false false) := by
  refine returnsInHanded_of_change (C := Try.checked) own started (by kernel_rfl) Try.func4
    (ChangeSpec.witness6 (enc := enc) (C := Try.checked) false ⟨#[], #[.slice none 0 0, .slice none 0 0, .int .i64 0, .slice none 0 0, .slice none 0 0, .slice none 0 0, .slice none 0 0, .int .i64 0, .slice none 0 0, .slice none 0 0, .int .i64 0, .slice none 0 0], []⟩ 8 (by kernel_rfl) (by kernel_rfl) (by kernel_rfl) (by kernel_rfl)) ?_
  intro W base args ds gs before hval0 hW hcnd _
  have hval : ∀ (j : Nat) t v, Try.f4.params[j]? = some t → args[j]? = some v → Value.okWide Try.prog W .any base t v := hval0
  have hW' := hW
  obtain ⟨p, q, hA0, hV, rfl, hfz, hnd⟩ := hW
  have hA : DataW.TrodAll enc Try.prog W 0 (fun _ => true) true Try.f4.params.toList args.toList ds p := hA0
  rw [Try.params4] at hA hval
  obtain ⟨v0, vs0, d0, ds0, p0, q0, hargs, rfl, rfl, h0, r0⟩ := trodAll_cons hA
  obtain ⟨v1, vs1, d1, ds1, p1, q1, rfl, rfl, rfl, h1, r1⟩ := trodAll_cons r0
  obtain ⟨v2, vs2, d2, ds2, p2, q2, rfl, rfl, rfl, h2, r2⟩ := trodAll_cons r1
  obtain ⟨v3, vs3, d3, ds3, p3, q3, rfl, rfl, rfl, h3, r3⟩ := trodAll_cons r2
  obtain ⟨v4, vs4, d4, ds4, p4, q4, rfl, rfl, rfl, h4, r4⟩ := trodAll_cons r3
  obtain ⟨v5, vs5, d5, ds5, p5, q5, rfl, rfl, rfl, h5, r5⟩ := trodAll_cons r4
  obtain ⟨v6, vs6, d6, ds6, p6, q6, rfl, rfl, rfl, h6, r6⟩ := trodAll_cons r5
  obtain ⟨v7, vs7, d7, ds7, p7, q7, rfl, rfl, rfl, h7, r7⟩ := trodAll_cons r6
  obtain ⟨v8, vs8, d8, ds8, p8, q8, rfl, rfl, rfl, h8, r8⟩ := trodAll_cons r7
  obtain ⟨v9, vs9, d9, ds9, p9, q9, rfl, rfl, rfl, h9, r9⟩ := trodAll_cons r8
  obtain ⟨v10, vs10, d10, ds10, p10, q10, rfl, rfl, rfl, h10, r10⟩ := trodAll_cons r9
  obtain ⟨v11, vs11, d11, ds11, p11, q11, rfl, rfl, rfl, h11, r11⟩ := trodAll_cons r10
  obtain ⟨rfl, rfl, rfl⟩ := trodAll_nil r11
  obtain rfl : args = #[v0, v1, v2, v3, v4, v5, v6, v7, v8, v9, v10, v11] := by cases args; simp_all
  obtain ⟨rfl, rfl⟩ := trodVars_none hV
  obtain ⟨a0, l0, c0, rfl⟩ := okWide_slice Try.underlying22 (hval 0 22 v0 rfl rfl)
  have k0 := h0
  have lt0 : ∀ x ∈ p0, x.block < W.heap.size := by obtain ⟨m, hm⟩ := k0; exact DataW.trod_lt m _ _ _ hm
  obtain ⟨f0, N0, R0, G0, M0⟩ := open22 h0
  obtain ⟨a1, l1, c1, rfl⟩ := okWide_slice Try.underlying23 (hval 1 23 v1 rfl rfl)
  have k1 := h1
  have lt1 : ∀ x ∈ p1, x.block < W.heap.size := by obtain ⟨m, hm⟩ := k1; exact DataW.trod_lt m _ _ _ hm
  obtain ⟨f1, R1, M1⟩ := open23 h1
  obtain ⟨x2, rfl, rfl, rfl, w2⟩ := open_int Try.underlying3 (hval 2 3 v2 rfl rfl) h2
  obtain ⟨a3, l3, c3, rfl⟩ := okWide_slice Try.underlying24 (hval 3 24 v3 rfl rfl)
  have k3 := h3
  have lt3 : ∀ x ∈ p3, x.block < W.heap.size := by obtain ⟨m, hm⟩ := k3; exact DataW.trod_lt m _ _ _ hm
  obtain ⟨f3, N3, R3, G3, M3⟩ := open24 h3
  obtain ⟨a4, l4, c4, rfl⟩ := okWide_slice Try.underlying23 (hval 4 23 v4 rfl rfl)
  have k4 := h4
  have lt4 : ∀ x ∈ p4, x.block < W.heap.size := by obtain ⟨m, hm⟩ := k4; exact DataW.trod_lt m _ _ _ hm
  obtain ⟨f4, R4, M4⟩ := open23 h4
  obtain ⟨a5, l5, c5, rfl⟩ := okWide_slice Try.underlying22 (hval 5 22 v5 rfl rfl)
  have k5 := h5
  have lt5 : ∀ x ∈ p5, x.block < W.heap.size := by obtain ⟨m, hm⟩ := k5; exact DataW.trod_lt m _ _ _ hm
  obtain ⟨f5, N5, R5, G5, M5⟩ := open22 h5
  obtain ⟨a6, l6, c6, rfl⟩ := okWide_slice Try.underlying23 (hval 6 23 v6 rfl rfl)
  have k6 := h6
  have lt6 : ∀ x ∈ p6, x.block < W.heap.size := by obtain ⟨m, hm⟩ := k6; exact DataW.trod_lt m _ _ _ hm
  obtain ⟨f6, R6, M6⟩ := open23 h6
  obtain ⟨x7, rfl, rfl, rfl, w7⟩ := open_int Try.underlying3 (hval 7 3 v7 rfl rfl) h7
  obtain ⟨a8, l8, c8, rfl⟩ := okWide_slice Try.underlying24 (hval 8 24 v8 rfl rfl)
  have k8 := h8
  have lt8 : ∀ x ∈ p8, x.block < W.heap.size := by obtain ⟨m, hm⟩ := k8; exact DataW.trod_lt m _ _ _ hm
  obtain ⟨f8, N8, R8, G8, M8⟩ := open24 h8
  obtain ⟨a9, l9, c9, rfl⟩ := okWide_slice Try.underlying22 (hval 9 22 v9 rfl rfl)
  have k9 := h9
  have lt9 : ∀ x ∈ p9, x.block < W.heap.size := by obtain ⟨m, hm⟩ := k9; exact DataW.trod_lt m _ _ _ hm
  obtain ⟨f9, N9, R9, G9, M9⟩ := open22 h9
  obtain ⟨x10, rfl, rfl, rfl, w10⟩ := open_int Try.underlying3 (hval 10 3 v10 rfl rfl) h10
  obtain ⟨a11, l11, c11, rfl⟩ := okWide_slice Try.underlying24 (hval 11 24 v11 rfl rfl)
  have k11 := h11
  have lt11 : ∀ x ∈ p11, x.block < W.heap.size := by obtain ⟨m, hm⟩ := k11; exact DataW.trod_lt m _ _ _ hm
  obtain ⟨f11, N11, R11, G11, M11⟩ := open24 h11
  clear hA0 hval0
  refine (assoc_all a0 a1 a3 a4 a5 a6 a8 a9 a11 l0 c0 l1 c1 l3 c3 l4 c4 l5 c5 l6 c6 l8 c8 l9 c9 l11 c11 x2 x7 x10 f0 f5 f9 f3 f8 f11 f1 f4 f6 W N0 N3 N5 N8 N9 N11 R0 R1 R3 R4 R5 R6 R8 R9 R11 G0 G5 G9 G3 G8 G11 M0 M1 M3 M4 M5 M6 M8 M9 M11).mono fun e W' ⟨he, bel⟩ => ?_
  subst he
  exact ⟨_, rfl, _, _, _, [], _, [], hW', trodAll_mk1 (shut_bool Try.underlying4 _), (trodAll_cons_mk (Below.trod laidOut (by kernel_rfl) (of_decide_eq_true (by kernel_rfl)) k0 bel lt0) (trodAll_cons_mk (Below.trod laidOut (by kernel_rfl) (of_decide_eq_true (by kernel_rfl)) k1 bel lt1) (trodAll_cons_mk (shut_int Try.underlying3 w2) (trodAll_cons_mk (Below.trod laidOut (by kernel_rfl) (of_decide_eq_true (by kernel_rfl)) k3 bel lt3) (trodAll_cons_mk (Below.trod laidOut (by kernel_rfl) (of_decide_eq_true (by kernel_rfl)) k4 bel lt4) (trodAll_cons_mk (Below.trod laidOut (by kernel_rfl) (of_decide_eq_true (by kernel_rfl)) k5 bel lt5) (trodAll_cons_mk (Below.trod laidOut (by kernel_rfl) (of_decide_eq_true (by kernel_rfl)) k6 bel lt6) (trodAll_cons_mk (shut_int Try.underlying3 w7) (trodAll_cons_mk (Below.trod laidOut (by kernel_rfl) (of_decide_eq_true (by kernel_rfl)) k8 bel lt8) (trodAll_cons_mk (Below.trod laidOut (by kernel_rfl) (of_decide_eq_true (by kernel_rfl)) k9 bel lt9) (trodAll_cons_mk (shut_int Try.underlying3 w10) (trodAll_cons_mk (Below.trod laidOut (by kernel_rfl) (of_decide_eq_true (by kernel_rfl)) k11 bel lt11) trodAll_mk0)))))))))))), rfl, bel.frame _, fun h => by cases h⟩

theorem over : Rows.fnMergeAssociativeRow.holds Try.pinned (OpenSpec.ofChange Rows.fnMergeAssociativeSpec) :=
  OpenClaim.holds_of_wide 4 Try.f4 rfl rfl rfl rfl rfl rfl rfl ⟨rfl, rfl, rfl, rfl, rfl⟩ rfl rfl rfl rfl rfl (by kernel_rfl) Try.func4 (by kernel_rfl)
    (of_decide_eq_true (by kernel_rfl)) (by unfold Func.isWrapper; first | (rw [if_pos (by decide +kernel)]; kernel_rfl) | (rw [if_neg (by decide +kernel)]; exact ⟨rfl, rfl⟩))
    (fun os started H enc _ => lifted os started H enc)

theorem proved : Rows.FnMergeAssociativeSaid := over

end Assoc

theorem assoc_proved : Rows.FnMergeAssociativeSaid := Assoc.proved
#print axioms assoc_proved
end Go.Proofs.Qxb6623451a
