/-
  splitDecimal (7): its ways, an exponent, B2.
-/
import Derived.Test.Qxb6623503aDoorSplit
namespace Go.Proofs.Qxb6623503aDoor
open Go.RowKit
set_option linter.unusedVariables false

set_option maxRecDepth 100000 in
set_option maxHeartbeats 2000000 in
theorem sp_B2_101_nil (L WH R2 T U TX RX : ByteArray) (c x : Int) (R1 R FR : ByteArray) (p : Int) (D : Bytes) (Rs : Res) (M : Int) (w : World)
    (e2 : ¬ R2.toList = []) (f2 : R2.toList.isEmpty = false) (s2 : 0 < R2.size) (m2 : R2.size ≤ 1048576) (i2 : ∀ h, ((R2[0]'h).toNat : Int) = 101) (t2 : R2.extract 1 R2.size = T) (eT : T.toList = []) (mT : T.size ≤ 1048576) (e1 : ¬ R1.toList = []) (f1 : R1.toList.isEmpty = false) (s1 : 0 < R1.size) (m1 : R1.size ≤ 1048576) (i1 : ∀ h, ((R1[0]'h).toNat : Int) = 46) (t1 : R1.extract 1 R1.size = R) (hw : ¬ WH.toList = []) (hw' : WH.toList.isEmpty = false) (lw : WH.size ≤ 1048576) (lf : FR.size ≤ 1048576) (q1 : Calls Tryd.prog 8 #[.string L] w fun e w' => (e = .returned (.tuple #[.string WH, .string R1])) ∧ ∃ nq, w' = w.drewN nq) (q2 : ∀ W : World, Calls Tryd.prog 8 #[.string R] W fun e w' => (e = .returned (.tuple #[.string FR, .string R2])) ∧ ∃ nq, w' = W.drewN nq) (q3 : ∀ W : World, Calls Tryd.prog 8 #[.string T] W fun e w' => (e = .returned (.tuple #[.string TX, .string RX])) ∧ ∃ nq, w' = W.drewN nq) (q4 : ¬ TX.toList = [] → RX.toList = [] → ∀ W : World, Below w.heap.size w W → Calls Tryd.prog 9 #[.string TX] W fun r w' => (∃ (x : Int) (er : Value), r = .returned (.tuple #[.int .i64 x, er]) ∧ 0 ≤ x ∧ Hid (min x 1048576 = M)) ∧ Below W.heap.size W w') (hF : Hid (TX.toList = [] ∨ ¬ RX.toList = [] → Rs = failed)) (hD : Hid (WH ++ FR = bs D)) (hK : Hid (¬ TX.toList = [] → RX.toList = [] → Rs = (D, M - (FR.size : Int), true))) :
    Calls Tryd.prog 7 #[.string L] w fun e w' => e = .returned (.tuple #[.string (bs Rs.1), .int .i64 Rs.2.1, .bool Rs.2.2]) ∧ Below w.heap.size w w' := by
  go_enter Tryd.func7, Tryd.ntmps7
  go_wp2_with fail
  refine q1.mono ?_
  rintro e w1 ⟨rfl, n1, rfl⟩
  clear q1
  go_wp2_with fail
  refine (q2 _).mono ?_
  rintro e w1 ⟨rfl, n2, rfl⟩
  clear q2
  go_wp2_with fail
  refine (q3 _).mono ?_
  rintro e w1 ⟨rfl, n3, rfl⟩
  clear q3
  by_cases htx : TX.toList = []
  · have HR : Hid (Rs = failed) := hF.out (.inl htx)
    clear hF hK q4 hD
    go_wp2
    go_ret3
    exact ⟨ret_fail HR.out, ⟨rfl, rfl, rfl, Nat.le_refl _, fun _ _ => rfl⟩⟩
  have htx' : TX.toList.isEmpty = false := by simp [htx]
  by_cases hrx : RX.toList = []
  · have hR := hK.out htx hrx
    have q' := fun W hW => q4 htx hrx W hW
    clear hF hK q4
    go_wp2_with fail
    refine (q' _ ?hb0).mono ?_
    case hb0 => exact ⟨rfl, rfl, rfl, Nat.le_refl _, fun _ _ => rfl⟩
    rintro e w2 ⟨⟨v, er, rfl, hv0, HM⟩, hb⟩
    clear q'
    have bel : Below w.heap.size w w2 := ⟨hb.os, hb.tape, hb.output, hb.size, fun k hk => hb.block k hk⟩
    clear hb
    rw [← HM.out] at hR
    clear HM
    have HR : Hid (Rs = _) := hR
    clear hR
    go_wp2
    go_ret3
    exact ⟨ret_at HR.out hD.out, bel⟩
  · have HR : Hid (Rs = failed) := hF.out (.inr hrx)
    have hrx' : RX.toList.isEmpty = false := by simp [hrx]
    clear hF hK q4 hD
    go_wp2
    go_ret3
    exact ⟨ret_fail HR.out, ⟨rfl, rfl, rfl, Nat.le_refl _, fun _ _ => rfl⟩⟩

set_option maxRecDepth 100000 in
set_option maxHeartbeats 2000000 in
theorem sp_B2_101_neg (L WH R2 T U TX RX : ByteArray) (c x : Int) (R1 R FR : ByteArray) (p : Int) (D : Bytes) (Rs : Res) (M : Int) (w : World)
    (e2 : ¬ R2.toList = []) (f2 : R2.toList.isEmpty = false) (s2 : 0 < R2.size) (m2 : R2.size ≤ 1048576) (i2 : ∀ h, ((R2[0]'h).toNat : Int) = 101) (t2 : R2.extract 1 R2.size = T) (eT : ¬ T.toList = []) (fT : T.toList.isEmpty = false) (sT : 0 < T.size) (mT : T.size ≤ 1048576) (iT : ∀ h, ((T[0]'h).toNat : Int) = 45) (tT : T.extract 1 T.size = U) (e1 : ¬ R1.toList = []) (f1 : R1.toList.isEmpty = false) (s1 : 0 < R1.size) (m1 : R1.size ≤ 1048576) (i1 : ∀ h, ((R1[0]'h).toNat : Int) = 46) (t1 : R1.extract 1 R1.size = R) (hw : ¬ WH.toList = []) (hw' : WH.toList.isEmpty = false) (lw : WH.size ≤ 1048576) (lf : FR.size ≤ 1048576) (q1 : Calls Tryd.prog 8 #[.string L] w fun e w' => (e = .returned (.tuple #[.string WH, .string R1])) ∧ ∃ nq, w' = w.drewN nq) (q2 : ∀ W : World, Calls Tryd.prog 8 #[.string R] W fun e w' => (e = .returned (.tuple #[.string FR, .string R2])) ∧ ∃ nq, w' = W.drewN nq) (q3 : ∀ W : World, Calls Tryd.prog 8 #[.string U] W fun e w' => (e = .returned (.tuple #[.string TX, .string RX])) ∧ ∃ nq, w' = W.drewN nq) (q4 : ¬ TX.toList = [] → RX.toList = [] → ∀ W : World, Below w.heap.size w W → Calls Tryd.prog 9 #[.string TX] W fun r w' => (∃ (x : Int) (er : Value), r = .returned (.tuple #[.int .i64 x, er]) ∧ 0 ≤ x ∧ Hid (min x 1048576 = M)) ∧ Below W.heap.size W w') (hF : Hid (TX.toList = [] ∨ ¬ RX.toList = [] → Rs = failed)) (hD : Hid (WH ++ FR = bs D)) (hK : Hid (¬ TX.toList = [] → RX.toList = [] → Rs = (D, -M - (FR.size : Int), true))) :
    Calls Tryd.prog 7 #[.string L] w fun e w' => e = .returned (.tuple #[.string (bs Rs.1), .int .i64 Rs.2.1, .bool Rs.2.2]) ∧ Below w.heap.size w w' := by
  go_enter Tryd.func7, Tryd.ntmps7
  go_wp2_with fail
  refine q1.mono ?_
  rintro e w1 ⟨rfl, n1, rfl⟩
  clear q1
  go_wp2_with fail
  refine (q2 _).mono ?_
  rintro e w1 ⟨rfl, n2, rfl⟩
  clear q2
  go_wp2_with fail
  refine (q3 _).mono ?_
  rintro e w1 ⟨rfl, n3, rfl⟩
  clear q3
  by_cases htx : TX.toList = []
  · have HR : Hid (Rs = failed) := hF.out (.inl htx)
    clear hF hK q4 hD
    go_wp2
    go_ret3
    exact ⟨ret_fail HR.out, ⟨rfl, rfl, rfl, Nat.le_refl _, fun _ _ => rfl⟩⟩
  have htx' : TX.toList.isEmpty = false := by simp [htx]
  by_cases hrx : RX.toList = []
  · have hR := hK.out htx hrx
    have q' := fun W hW => q4 htx hrx W hW
    clear hF hK q4
    go_wp2_with fail
    refine (q' _ ?hb0).mono ?_
    case hb0 => exact ⟨rfl, rfl, rfl, Nat.le_refl _, fun _ _ => rfl⟩
    rintro e w2 ⟨⟨v, er, rfl, hv0, HM⟩, hb⟩
    clear q'
    have bel : Below w.heap.size w w2 := ⟨hb.os, hb.tape, hb.output, hb.size, fun k hk => hb.block k hk⟩
    clear hb
    rw [← HM.out] at hR
    clear HM
    have HR : Hid (Rs = _) := hR
    clear hR
    go_wp2
    go_ret3
    exact ⟨ret_at HR.out hD.out, bel⟩
  · have HR : Hid (Rs = failed) := hF.out (.inr hrx)
    have hrx' : RX.toList.isEmpty = false := by simp [hrx]
    clear hF hK q4 hD
    go_wp2
    go_ret3
    exact ⟨ret_fail HR.out, ⟨rfl, rfl, rfl, Nat.le_refl _, fun _ _ => rfl⟩⟩

set_option maxRecDepth 100000 in
set_option maxHeartbeats 2000000 in
theorem sp_B2_101_pos (L WH R2 T U TX RX : ByteArray) (c x : Int) (R1 R FR : ByteArray) (p : Int) (D : Bytes) (Rs : Res) (M : Int) (w : World)
    (e2 : ¬ R2.toList = []) (f2 : R2.toList.isEmpty = false) (s2 : 0 < R2.size) (m2 : R2.size ≤ 1048576) (i2 : ∀ h, ((R2[0]'h).toNat : Int) = 101) (t2 : R2.extract 1 R2.size = T) (eT : ¬ T.toList = []) (fT : T.toList.isEmpty = false) (sT : 0 < T.size) (mT : T.size ≤ 1048576) (iT : ∀ h, ((T[0]'h).toNat : Int) = 43) (tT : T.extract 1 T.size = U) (e1 : ¬ R1.toList = []) (f1 : R1.toList.isEmpty = false) (s1 : 0 < R1.size) (m1 : R1.size ≤ 1048576) (i1 : ∀ h, ((R1[0]'h).toNat : Int) = 46) (t1 : R1.extract 1 R1.size = R) (hw : ¬ WH.toList = []) (hw' : WH.toList.isEmpty = false) (lw : WH.size ≤ 1048576) (lf : FR.size ≤ 1048576) (q1 : Calls Tryd.prog 8 #[.string L] w fun e w' => (e = .returned (.tuple #[.string WH, .string R1])) ∧ ∃ nq, w' = w.drewN nq) (q2 : ∀ W : World, Calls Tryd.prog 8 #[.string R] W fun e w' => (e = .returned (.tuple #[.string FR, .string R2])) ∧ ∃ nq, w' = W.drewN nq) (q3 : ∀ W : World, Calls Tryd.prog 8 #[.string U] W fun e w' => (e = .returned (.tuple #[.string TX, .string RX])) ∧ ∃ nq, w' = W.drewN nq) (q4 : ¬ TX.toList = [] → RX.toList = [] → ∀ W : World, Below w.heap.size w W → Calls Tryd.prog 9 #[.string TX] W fun r w' => (∃ (x : Int) (er : Value), r = .returned (.tuple #[.int .i64 x, er]) ∧ 0 ≤ x ∧ Hid (min x 1048576 = M)) ∧ Below W.heap.size W w') (hF : Hid (TX.toList = [] ∨ ¬ RX.toList = [] → Rs = failed)) (hD : Hid (WH ++ FR = bs D)) (hK : Hid (¬ TX.toList = [] → RX.toList = [] → Rs = (D, M - (FR.size : Int), true))) :
    Calls Tryd.prog 7 #[.string L] w fun e w' => e = .returned (.tuple #[.string (bs Rs.1), .int .i64 Rs.2.1, .bool Rs.2.2]) ∧ Below w.heap.size w w' := by
  go_enter Tryd.func7, Tryd.ntmps7
  go_wp2_with fail
  refine q1.mono ?_
  rintro e w1 ⟨rfl, n1, rfl⟩
  clear q1
  go_wp2_with fail
  refine (q2 _).mono ?_
  rintro e w1 ⟨rfl, n2, rfl⟩
  clear q2
  go_wp2_with fail
  refine (q3 _).mono ?_
  rintro e w1 ⟨rfl, n3, rfl⟩
  clear q3
  by_cases htx : TX.toList = []
  · have HR : Hid (Rs = failed) := hF.out (.inl htx)
    clear hF hK q4 hD
    go_wp2
    go_ret3
    exact ⟨ret_fail HR.out, ⟨rfl, rfl, rfl, Nat.le_refl _, fun _ _ => rfl⟩⟩
  have htx' : TX.toList.isEmpty = false := by simp [htx]
  by_cases hrx : RX.toList = []
  · have hR := hK.out htx hrx
    have q' := fun W hW => q4 htx hrx W hW
    clear hF hK q4
    go_wp2_with fail
    refine (q' _ ?hb0).mono ?_
    case hb0 => exact ⟨rfl, rfl, rfl, Nat.le_refl _, fun _ _ => rfl⟩
    rintro e w2 ⟨⟨v, er, rfl, hv0, HM⟩, hb⟩
    clear q'
    have bel : Below w.heap.size w w2 := ⟨hb.os, hb.tape, hb.output, hb.size, fun k hk => hb.block k hk⟩
    clear hb
    rw [← HM.out] at hR
    clear HM
    have HR : Hid (Rs = _) := hR
    clear hR
    go_wp2
    go_ret3
    exact ⟨ret_at HR.out hD.out, bel⟩
  · have HR : Hid (Rs = failed) := hF.out (.inr hrx)
    have hrx' : RX.toList.isEmpty = false := by simp [hrx]
    clear hF hK q4 hD
    go_wp2
    go_ret3
    exact ⟨ret_fail HR.out, ⟨rfl, rfl, rfl, Nat.le_refl _, fun _ _ => rfl⟩⟩

set_option maxRecDepth 100000 in
set_option maxHeartbeats 2000000 in
theorem sp_B2_101_bare (L WH R2 T U TX RX : ByteArray) (c x : Int) (R1 R FR : ByteArray) (p : Int) (D : Bytes) (Rs : Res) (M : Int) (w : World)
    (e2 : ¬ R2.toList = []) (f2 : R2.toList.isEmpty = false) (s2 : 0 < R2.size) (m2 : R2.size ≤ 1048576) (i2 : ∀ h, ((R2[0]'h).toNat : Int) = 101) (t2 : R2.extract 1 R2.size = T) (eT : ¬ T.toList = []) (fT : T.toList.isEmpty = false) (sT : 0 < T.size) (mT : T.size ≤ 1048576) (iT : ∀ h, ((T[0]'h).toNat : Int) = x) (hx : (x == 45) = false) (hx' : (x == 43) = false) (e1 : ¬ R1.toList = []) (f1 : R1.toList.isEmpty = false) (s1 : 0 < R1.size) (m1 : R1.size ≤ 1048576) (i1 : ∀ h, ((R1[0]'h).toNat : Int) = 46) (t1 : R1.extract 1 R1.size = R) (hw : ¬ WH.toList = []) (hw' : WH.toList.isEmpty = false) (lw : WH.size ≤ 1048576) (lf : FR.size ≤ 1048576) (q1 : Calls Tryd.prog 8 #[.string L] w fun e w' => (e = .returned (.tuple #[.string WH, .string R1])) ∧ ∃ nq, w' = w.drewN nq) (q2 : ∀ W : World, Calls Tryd.prog 8 #[.string R] W fun e w' => (e = .returned (.tuple #[.string FR, .string R2])) ∧ ∃ nq, w' = W.drewN nq) (q3 : ∀ W : World, Calls Tryd.prog 8 #[.string T] W fun e w' => (e = .returned (.tuple #[.string TX, .string RX])) ∧ ∃ nq, w' = W.drewN nq) (q4 : ¬ TX.toList = [] → RX.toList = [] → ∀ W : World, Below w.heap.size w W → Calls Tryd.prog 9 #[.string TX] W fun r w' => (∃ (x : Int) (er : Value), r = .returned (.tuple #[.int .i64 x, er]) ∧ 0 ≤ x ∧ Hid (min x 1048576 = M)) ∧ Below W.heap.size W w') (hF : Hid (TX.toList = [] ∨ ¬ RX.toList = [] → Rs = failed)) (hD : Hid (WH ++ FR = bs D)) (hK : Hid (¬ TX.toList = [] → RX.toList = [] → Rs = (D, M - (FR.size : Int), true))) :
    Calls Tryd.prog 7 #[.string L] w fun e w' => e = .returned (.tuple #[.string (bs Rs.1), .int .i64 Rs.2.1, .bool Rs.2.2]) ∧ Below w.heap.size w w' := by
  go_enter Tryd.func7, Tryd.ntmps7
  go_wp2_with fail
  refine q1.mono ?_
  rintro e w1 ⟨rfl, n1, rfl⟩
  clear q1
  go_wp2_with fail
  refine (q2 _).mono ?_
  rintro e w1 ⟨rfl, n2, rfl⟩
  clear q2
  go_wp2_with fail
  refine (q3 _).mono ?_
  rintro e w1 ⟨rfl, n3, rfl⟩
  clear q3
  by_cases htx : TX.toList = []
  · have HR : Hid (Rs = failed) := hF.out (.inl htx)
    clear hF hK q4 hD
    go_wp2
    go_ret3
    exact ⟨ret_fail HR.out, ⟨rfl, rfl, rfl, Nat.le_refl _, fun _ _ => rfl⟩⟩
  have htx' : TX.toList.isEmpty = false := by simp [htx]
  by_cases hrx : RX.toList = []
  · have hR := hK.out htx hrx
    have q' := fun W hW => q4 htx hrx W hW
    clear hF hK q4
    go_wp2_with fail
    refine (q' _ ?hb0).mono ?_
    case hb0 => exact ⟨rfl, rfl, rfl, Nat.le_refl _, fun _ _ => rfl⟩
    rintro e w2 ⟨⟨v, er, rfl, hv0, HM⟩, hb⟩
    clear q'
    have bel : Below w.heap.size w w2 := ⟨hb.os, hb.tape, hb.output, hb.size, fun k hk => hb.block k hk⟩
    clear hb
    rw [← HM.out] at hR
    clear HM
    have HR : Hid (Rs = _) := hR
    clear hR
    go_wp2
    go_ret3
    exact ⟨ret_at HR.out hD.out, bel⟩
  · have HR : Hid (Rs = failed) := hF.out (.inr hrx)
    have hrx' : RX.toList.isEmpty = false := by simp [hrx]
    clear hF hK q4 hD
    go_wp2
    go_ret3
    exact ⟨ret_fail HR.out, ⟨rfl, rfl, rfl, Nat.le_refl _, fun _ _ => rfl⟩⟩

set_option maxRecDepth 100000 in
set_option maxHeartbeats 2000000 in
theorem sp_B2_69_nil (L WH R2 T U TX RX : ByteArray) (c x : Int) (R1 R FR : ByteArray) (p : Int) (D : Bytes) (Rs : Res) (M : Int) (w : World)
    (e2 : ¬ R2.toList = []) (f2 : R2.toList.isEmpty = false) (s2 : 0 < R2.size) (m2 : R2.size ≤ 1048576) (i2 : ∀ h, ((R2[0]'h).toNat : Int) = 69) (t2 : R2.extract 1 R2.size = T) (eT : T.toList = []) (mT : T.size ≤ 1048576) (e1 : ¬ R1.toList = []) (f1 : R1.toList.isEmpty = false) (s1 : 0 < R1.size) (m1 : R1.size ≤ 1048576) (i1 : ∀ h, ((R1[0]'h).toNat : Int) = 46) (t1 : R1.extract 1 R1.size = R) (hw : ¬ WH.toList = []) (hw' : WH.toList.isEmpty = false) (lw : WH.size ≤ 1048576) (lf : FR.size ≤ 1048576) (q1 : Calls Tryd.prog 8 #[.string L] w fun e w' => (e = .returned (.tuple #[.string WH, .string R1])) ∧ ∃ nq, w' = w.drewN nq) (q2 : ∀ W : World, Calls Tryd.prog 8 #[.string R] W fun e w' => (e = .returned (.tuple #[.string FR, .string R2])) ∧ ∃ nq, w' = W.drewN nq) (q3 : ∀ W : World, Calls Tryd.prog 8 #[.string T] W fun e w' => (e = .returned (.tuple #[.string TX, .string RX])) ∧ ∃ nq, w' = W.drewN nq) (q4 : ¬ TX.toList = [] → RX.toList = [] → ∀ W : World, Below w.heap.size w W → Calls Tryd.prog 9 #[.string TX] W fun r w' => (∃ (x : Int) (er : Value), r = .returned (.tuple #[.int .i64 x, er]) ∧ 0 ≤ x ∧ Hid (min x 1048576 = M)) ∧ Below W.heap.size W w') (hF : Hid (TX.toList = [] ∨ ¬ RX.toList = [] → Rs = failed)) (hD : Hid (WH ++ FR = bs D)) (hK : Hid (¬ TX.toList = [] → RX.toList = [] → Rs = (D, M - (FR.size : Int), true))) :
    Calls Tryd.prog 7 #[.string L] w fun e w' => e = .returned (.tuple #[.string (bs Rs.1), .int .i64 Rs.2.1, .bool Rs.2.2]) ∧ Below w.heap.size w w' := by
  go_enter Tryd.func7, Tryd.ntmps7
  go_wp2_with fail
  refine q1.mono ?_
  rintro e w1 ⟨rfl, n1, rfl⟩
  clear q1
  go_wp2_with fail
  refine (q2 _).mono ?_
  rintro e w1 ⟨rfl, n2, rfl⟩
  clear q2
  go_wp2_with fail
  refine (q3 _).mono ?_
  rintro e w1 ⟨rfl, n3, rfl⟩
  clear q3
  by_cases htx : TX.toList = []
  · have HR : Hid (Rs = failed) := hF.out (.inl htx)
    clear hF hK q4 hD
    go_wp2
    go_ret3
    exact ⟨ret_fail HR.out, ⟨rfl, rfl, rfl, Nat.le_refl _, fun _ _ => rfl⟩⟩
  have htx' : TX.toList.isEmpty = false := by simp [htx]
  by_cases hrx : RX.toList = []
  · have hR := hK.out htx hrx
    have q' := fun W hW => q4 htx hrx W hW
    clear hF hK q4
    go_wp2_with fail
    refine (q' _ ?hb0).mono ?_
    case hb0 => exact ⟨rfl, rfl, rfl, Nat.le_refl _, fun _ _ => rfl⟩
    rintro e w2 ⟨⟨v, er, rfl, hv0, HM⟩, hb⟩
    clear q'
    have bel : Below w.heap.size w w2 := ⟨hb.os, hb.tape, hb.output, hb.size, fun k hk => hb.block k hk⟩
    clear hb
    rw [← HM.out] at hR
    clear HM
    have HR : Hid (Rs = _) := hR
    clear hR
    go_wp2
    go_ret3
    exact ⟨ret_at HR.out hD.out, bel⟩
  · have HR : Hid (Rs = failed) := hF.out (.inr hrx)
    have hrx' : RX.toList.isEmpty = false := by simp [hrx]
    clear hF hK q4 hD
    go_wp2
    go_ret3
    exact ⟨ret_fail HR.out, ⟨rfl, rfl, rfl, Nat.le_refl _, fun _ _ => rfl⟩⟩

set_option maxRecDepth 100000 in
set_option maxHeartbeats 2000000 in
theorem sp_B2_69_neg (L WH R2 T U TX RX : ByteArray) (c x : Int) (R1 R FR : ByteArray) (p : Int) (D : Bytes) (Rs : Res) (M : Int) (w : World)
    (e2 : ¬ R2.toList = []) (f2 : R2.toList.isEmpty = false) (s2 : 0 < R2.size) (m2 : R2.size ≤ 1048576) (i2 : ∀ h, ((R2[0]'h).toNat : Int) = 69) (t2 : R2.extract 1 R2.size = T) (eT : ¬ T.toList = []) (fT : T.toList.isEmpty = false) (sT : 0 < T.size) (mT : T.size ≤ 1048576) (iT : ∀ h, ((T[0]'h).toNat : Int) = 45) (tT : T.extract 1 T.size = U) (e1 : ¬ R1.toList = []) (f1 : R1.toList.isEmpty = false) (s1 : 0 < R1.size) (m1 : R1.size ≤ 1048576) (i1 : ∀ h, ((R1[0]'h).toNat : Int) = 46) (t1 : R1.extract 1 R1.size = R) (hw : ¬ WH.toList = []) (hw' : WH.toList.isEmpty = false) (lw : WH.size ≤ 1048576) (lf : FR.size ≤ 1048576) (q1 : Calls Tryd.prog 8 #[.string L] w fun e w' => (e = .returned (.tuple #[.string WH, .string R1])) ∧ ∃ nq, w' = w.drewN nq) (q2 : ∀ W : World, Calls Tryd.prog 8 #[.string R] W fun e w' => (e = .returned (.tuple #[.string FR, .string R2])) ∧ ∃ nq, w' = W.drewN nq) (q3 : ∀ W : World, Calls Tryd.prog 8 #[.string U] W fun e w' => (e = .returned (.tuple #[.string TX, .string RX])) ∧ ∃ nq, w' = W.drewN nq) (q4 : ¬ TX.toList = [] → RX.toList = [] → ∀ W : World, Below w.heap.size w W → Calls Tryd.prog 9 #[.string TX] W fun r w' => (∃ (x : Int) (er : Value), r = .returned (.tuple #[.int .i64 x, er]) ∧ 0 ≤ x ∧ Hid (min x 1048576 = M)) ∧ Below W.heap.size W w') (hF : Hid (TX.toList = [] ∨ ¬ RX.toList = [] → Rs = failed)) (hD : Hid (WH ++ FR = bs D)) (hK : Hid (¬ TX.toList = [] → RX.toList = [] → Rs = (D, -M - (FR.size : Int), true))) :
    Calls Tryd.prog 7 #[.string L] w fun e w' => e = .returned (.tuple #[.string (bs Rs.1), .int .i64 Rs.2.1, .bool Rs.2.2]) ∧ Below w.heap.size w w' := by
  go_enter Tryd.func7, Tryd.ntmps7
  go_wp2_with fail
  refine q1.mono ?_
  rintro e w1 ⟨rfl, n1, rfl⟩
  clear q1
  go_wp2_with fail
  refine (q2 _).mono ?_
  rintro e w1 ⟨rfl, n2, rfl⟩
  clear q2
  go_wp2_with fail
  refine (q3 _).mono ?_
  rintro e w1 ⟨rfl, n3, rfl⟩
  clear q3
  by_cases htx : TX.toList = []
  · have HR : Hid (Rs = failed) := hF.out (.inl htx)
    clear hF hK q4 hD
    go_wp2
    go_ret3
    exact ⟨ret_fail HR.out, ⟨rfl, rfl, rfl, Nat.le_refl _, fun _ _ => rfl⟩⟩
  have htx' : TX.toList.isEmpty = false := by simp [htx]
  by_cases hrx : RX.toList = []
  · have hR := hK.out htx hrx
    have q' := fun W hW => q4 htx hrx W hW
    clear hF hK q4
    go_wp2_with fail
    refine (q' _ ?hb0).mono ?_
    case hb0 => exact ⟨rfl, rfl, rfl, Nat.le_refl _, fun _ _ => rfl⟩
    rintro e w2 ⟨⟨v, er, rfl, hv0, HM⟩, hb⟩
    clear q'
    have bel : Below w.heap.size w w2 := ⟨hb.os, hb.tape, hb.output, hb.size, fun k hk => hb.block k hk⟩
    clear hb
    rw [← HM.out] at hR
    clear HM
    have HR : Hid (Rs = _) := hR
    clear hR
    go_wp2
    go_ret3
    exact ⟨ret_at HR.out hD.out, bel⟩
  · have HR : Hid (Rs = failed) := hF.out (.inr hrx)
    have hrx' : RX.toList.isEmpty = false := by simp [hrx]
    clear hF hK q4 hD
    go_wp2
    go_ret3
    exact ⟨ret_fail HR.out, ⟨rfl, rfl, rfl, Nat.le_refl _, fun _ _ => rfl⟩⟩

set_option maxRecDepth 100000 in
set_option maxHeartbeats 2000000 in
theorem sp_B2_69_pos (L WH R2 T U TX RX : ByteArray) (c x : Int) (R1 R FR : ByteArray) (p : Int) (D : Bytes) (Rs : Res) (M : Int) (w : World)
    (e2 : ¬ R2.toList = []) (f2 : R2.toList.isEmpty = false) (s2 : 0 < R2.size) (m2 : R2.size ≤ 1048576) (i2 : ∀ h, ((R2[0]'h).toNat : Int) = 69) (t2 : R2.extract 1 R2.size = T) (eT : ¬ T.toList = []) (fT : T.toList.isEmpty = false) (sT : 0 < T.size) (mT : T.size ≤ 1048576) (iT : ∀ h, ((T[0]'h).toNat : Int) = 43) (tT : T.extract 1 T.size = U) (e1 : ¬ R1.toList = []) (f1 : R1.toList.isEmpty = false) (s1 : 0 < R1.size) (m1 : R1.size ≤ 1048576) (i1 : ∀ h, ((R1[0]'h).toNat : Int) = 46) (t1 : R1.extract 1 R1.size = R) (hw : ¬ WH.toList = []) (hw' : WH.toList.isEmpty = false) (lw : WH.size ≤ 1048576) (lf : FR.size ≤ 1048576) (q1 : Calls Tryd.prog 8 #[.string L] w fun e w' => (e = .returned (.tuple #[.string WH, .string R1])) ∧ ∃ nq, w' = w.drewN nq) (q2 : ∀ W : World, Calls Tryd.prog 8 #[.string R] W fun e w' => (e = .returned (.tuple #[.string FR, .string R2])) ∧ ∃ nq, w' = W.drewN nq) (q3 : ∀ W : World, Calls Tryd.prog 8 #[.string U] W fun e w' => (e = .returned (.tuple #[.string TX, .string RX])) ∧ ∃ nq, w' = W.drewN nq) (q4 : ¬ TX.toList = [] → RX.toList = [] → ∀ W : World, Below w.heap.size w W → Calls Tryd.prog 9 #[.string TX] W fun r w' => (∃ (x : Int) (er : Value), r = .returned (.tuple #[.int .i64 x, er]) ∧ 0 ≤ x ∧ Hid (min x 1048576 = M)) ∧ Below W.heap.size W w') (hF : Hid (TX.toList = [] ∨ ¬ RX.toList = [] → Rs = failed)) (hD : Hid (WH ++ FR = bs D)) (hK : Hid (¬ TX.toList = [] → RX.toList = [] → Rs = (D, M - (FR.size : Int), true))) :
    Calls Tryd.prog 7 #[.string L] w fun e w' => e = .returned (.tuple #[.string (bs Rs.1), .int .i64 Rs.2.1, .bool Rs.2.2]) ∧ Below w.heap.size w w' := by
  go_enter Tryd.func7, Tryd.ntmps7
  go_wp2_with fail
  refine q1.mono ?_
  rintro e w1 ⟨rfl, n1, rfl⟩
  clear q1
  go_wp2_with fail
  refine (q2 _).mono ?_
  rintro e w1 ⟨rfl, n2, rfl⟩
  clear q2
  go_wp2_with fail
  refine (q3 _).mono ?_
  rintro e w1 ⟨rfl, n3, rfl⟩
  clear q3
  by_cases htx : TX.toList = []
  · have HR : Hid (Rs = failed) := hF.out (.inl htx)
    clear hF hK q4 hD
    go_wp2
    go_ret3
    exact ⟨ret_fail HR.out, ⟨rfl, rfl, rfl, Nat.le_refl _, fun _ _ => rfl⟩⟩
  have htx' : TX.toList.isEmpty = false := by simp [htx]
  by_cases hrx : RX.toList = []
  · have hR := hK.out htx hrx
    have q' := fun W hW => q4 htx hrx W hW
    clear hF hK q4
    go_wp2_with fail
    refine (q' _ ?hb0).mono ?_
    case hb0 => exact ⟨rfl, rfl, rfl, Nat.le_refl _, fun _ _ => rfl⟩
    rintro e w2 ⟨⟨v, er, rfl, hv0, HM⟩, hb⟩
    clear q'
    have bel : Below w.heap.size w w2 := ⟨hb.os, hb.tape, hb.output, hb.size, fun k hk => hb.block k hk⟩
    clear hb
    rw [← HM.out] at hR
    clear HM
    have HR : Hid (Rs = _) := hR
    clear hR
    go_wp2
    go_ret3
    exact ⟨ret_at HR.out hD.out, bel⟩
  · have HR : Hid (Rs = failed) := hF.out (.inr hrx)
    have hrx' : RX.toList.isEmpty = false := by simp [hrx]
    clear hF hK q4 hD
    go_wp2
    go_ret3
    exact ⟨ret_fail HR.out, ⟨rfl, rfl, rfl, Nat.le_refl _, fun _ _ => rfl⟩⟩

set_option maxRecDepth 100000 in
set_option maxHeartbeats 2000000 in
theorem sp_B2_69_bare (L WH R2 T U TX RX : ByteArray) (c x : Int) (R1 R FR : ByteArray) (p : Int) (D : Bytes) (Rs : Res) (M : Int) (w : World)
    (e2 : ¬ R2.toList = []) (f2 : R2.toList.isEmpty = false) (s2 : 0 < R2.size) (m2 : R2.size ≤ 1048576) (i2 : ∀ h, ((R2[0]'h).toNat : Int) = 69) (t2 : R2.extract 1 R2.size = T) (eT : ¬ T.toList = []) (fT : T.toList.isEmpty = false) (sT : 0 < T.size) (mT : T.size ≤ 1048576) (iT : ∀ h, ((T[0]'h).toNat : Int) = x) (hx : (x == 45) = false) (hx' : (x == 43) = false) (e1 : ¬ R1.toList = []) (f1 : R1.toList.isEmpty = false) (s1 : 0 < R1.size) (m1 : R1.size ≤ 1048576) (i1 : ∀ h, ((R1[0]'h).toNat : Int) = 46) (t1 : R1.extract 1 R1.size = R) (hw : ¬ WH.toList = []) (hw' : WH.toList.isEmpty = false) (lw : WH.size ≤ 1048576) (lf : FR.size ≤ 1048576) (q1 : Calls Tryd.prog 8 #[.string L] w fun e w' => (e = .returned (.tuple #[.string WH, .string R1])) ∧ ∃ nq, w' = w.drewN nq) (q2 : ∀ W : World, Calls Tryd.prog 8 #[.string R] W fun e w' => (e = .returned (.tuple #[.string FR, .string R2])) ∧ ∃ nq, w' = W.drewN nq) (q3 : ∀ W : World, Calls Tryd.prog 8 #[.string T] W fun e w' => (e = .returned (.tuple #[.string TX, .string RX])) ∧ ∃ nq, w' = W.drewN nq) (q4 : ¬ TX.toList = [] → RX.toList = [] → ∀ W : World, Below w.heap.size w W → Calls Tryd.prog 9 #[.string TX] W fun r w' => (∃ (x : Int) (er : Value), r = .returned (.tuple #[.int .i64 x, er]) ∧ 0 ≤ x ∧ Hid (min x 1048576 = M)) ∧ Below W.heap.size W w') (hF : Hid (TX.toList = [] ∨ ¬ RX.toList = [] → Rs = failed)) (hD : Hid (WH ++ FR = bs D)) (hK : Hid (¬ TX.toList = [] → RX.toList = [] → Rs = (D, M - (FR.size : Int), true))) :
    Calls Tryd.prog 7 #[.string L] w fun e w' => e = .returned (.tuple #[.string (bs Rs.1), .int .i64 Rs.2.1, .bool Rs.2.2]) ∧ Below w.heap.size w w' := by
  go_enter Tryd.func7, Tryd.ntmps7
  go_wp2_with fail
  refine q1.mono ?_
  rintro e w1 ⟨rfl, n1, rfl⟩
  clear q1
  go_wp2_with fail
  refine (q2 _).mono ?_
  rintro e w1 ⟨rfl, n2, rfl⟩
  clear q2
  go_wp2_with fail
  refine (q3 _).mono ?_
  rintro e w1 ⟨rfl, n3, rfl⟩
  clear q3
  by_cases htx : TX.toList = []
  · have HR : Hid (Rs = failed) := hF.out (.inl htx)
    clear hF hK q4 hD
    go_wp2
    go_ret3
    exact ⟨ret_fail HR.out, ⟨rfl, rfl, rfl, Nat.le_refl _, fun _ _ => rfl⟩⟩
  have htx' : TX.toList.isEmpty = false := by simp [htx]
  by_cases hrx : RX.toList = []
  · have hR := hK.out htx hrx
    have q' := fun W hW => q4 htx hrx W hW
    clear hF hK q4
    go_wp2_with fail
    refine (q' _ ?hb0).mono ?_
    case hb0 => exact ⟨rfl, rfl, rfl, Nat.le_refl _, fun _ _ => rfl⟩
    rintro e w2 ⟨⟨v, er, rfl, hv0, HM⟩, hb⟩
    clear q'
    have bel : Below w.heap.size w w2 := ⟨hb.os, hb.tape, hb.output, hb.size, fun k hk => hb.block k hk⟩
    clear hb
    rw [← HM.out] at hR
    clear HM
    have HR : Hid (Rs = _) := hR
    clear hR
    go_wp2
    go_ret3
    exact ⟨ret_at HR.out hD.out, bel⟩
  · have HR : Hid (Rs = failed) := hF.out (.inr hrx)
    have hrx' : RX.toList.isEmpty = false := by simp [hrx]
    clear hF hK q4 hD
    go_wp2
    go_ret3
    exact ⟨ret_fail HR.out, ⟨rfl, rfl, rfl, Nat.le_refl _, fun _ _ => rfl⟩⟩

end Go.Proofs.Qxb6623503aDoor
