/-
  splitDecimal (7): its ways, no exponent.
-/
import Derived.Test.Qxb6623503aDoorSplit
namespace Go.Proofs.Qxb6623503aDoor
open Go.RowKit
set_option linter.unusedVariables false

set_option maxRecDepth 100000 in
set_option maxHeartbeats 2000000 in
theorem sn_A_nil (L WH R2 : ByteArray) (D : Bytes) (Rs : Res) (w : World) (e2 : R2.toList = []) (m2 : R2.size ≤ 1048576) (hw : ¬ WH.toList = []) (hw' : WH.toList.isEmpty = false) (lw : WH.size ≤ 1048576) (q1 : Calls Tryd.prog 8 #[.string L] w fun e w' => (e = .returned (.tuple #[.string WH, .string R2])) ∧ ∃ nq, w' = w.drewN nq) (hD : Hid (WH ++ ⟨#[]⟩ = bs D)) (hR : Hid (Rs = (D, 0, true))) :
    Calls Tryd.prog 7 #[.string L] w fun e w' => e = .returned (.tuple #[.string (bs Rs.1), .int .i64 Rs.2.1, .bool Rs.2.2]) ∧ Below w.heap.size w w' := by
  go_enter Tryd.func7, Tryd.ntmps7
  go_wp2_with fail
  refine q1.mono ?_
  rintro e w1 ⟨rfl, n1, rfl⟩
  clear q1
  go_wp2
  go_ret3
  exact ⟨ret_at hR.out hD.out, ⟨rfl, rfl, rfl, Nat.le_refl _, fun _ _ => rfl⟩⟩

set_option maxRecDepth 100000 in
set_option maxHeartbeats 2000000 in
theorem sn_A_fail_nil (L WH R2 : ByteArray) (Rs : Res) (w : World) (e2 : R2.toList = []) (m2 : R2.size ≤ 1048576) (hw : WH.toList = []) (hw' : WH.toList.isEmpty = true) (lw : WH.size ≤ 1048576) (q1 : Calls Tryd.prog 8 #[.string L] w fun e w' => (e = .returned (.tuple #[.string WH, .string R2])) ∧ ∃ nq, w' = w.drewN nq) (hR : Hid (Rs = failed)) :
    Calls Tryd.prog 7 #[.string L] w fun e w' => e = .returned (.tuple #[.string (bs Rs.1), .int .i64 Rs.2.1, .bool Rs.2.2]) ∧ Below w.heap.size w w' := by
  go_enter Tryd.func7, Tryd.ntmps7
  go_wp2_with fail
  refine q1.mono ?_
  rintro e w1 ⟨rfl, n1, rfl⟩
  clear q1
  go_wp2
  go_ret3
  exact ⟨ret_fail hR.out, ⟨rfl, rfl, rfl, Nat.le_refl _, fun _ _ => rfl⟩⟩

set_option maxRecDepth 100000 in
set_option maxHeartbeats 2000000 in
theorem sn_A_fail (L WH R2 : ByteArray) (c : Int) (Rs : Res) (w : World) (e2 : ¬ R2.toList = []) (f2 : R2.toList.isEmpty = false) (s2 : 0 < R2.size) (m2 : R2.size ≤ 1048576) (i2 : ∀ h, ((R2[0]'h).toNat : Int) = c) (n46 : (c == 46) = false) (hw : WH.toList = []) (hw' : WH.toList.isEmpty = true) (lw : WH.size ≤ 1048576) (q1 : Calls Tryd.prog 8 #[.string L] w fun e w' => (e = .returned (.tuple #[.string WH, .string R2])) ∧ ∃ nq, w' = w.drewN nq) (hR : Hid (Rs = failed)) :
    Calls Tryd.prog 7 #[.string L] w fun e w' => e = .returned (.tuple #[.string (bs Rs.1), .int .i64 Rs.2.1, .bool Rs.2.2]) ∧ Below w.heap.size w w' := by
  go_enter Tryd.func7, Tryd.ntmps7
  go_wp2_with fail
  refine q1.mono ?_
  rintro e w1 ⟨rfl, n1, rfl⟩
  clear q1
  go_wp2
  go_ret3
  exact ⟨ret_fail hR.out, ⟨rfl, rfl, rfl, Nat.le_refl _, fun _ _ => rfl⟩⟩

set_option maxRecDepth 100000 in
set_option maxHeartbeats 2000000 in
theorem sn_A_notE (L WH R2 : ByteArray) (c : Int) (Rs : Res) (w : World) (e2 : ¬ R2.toList = []) (f2 : R2.toList.isEmpty = false) (s2 : 0 < R2.size) (m2 : R2.size ≤ 1048576) (i2 : ∀ h, ((R2[0]'h).toNat : Int) = c) (n46 : (c == 46) = false) (n101 : (c == 101) = false) (n69 : (c == 69) = false) (k101 : (c != 101) = true) (k69 : (c != 69) = true) (hw : ¬ WH.toList = []) (hw' : WH.toList.isEmpty = false) (lw : WH.size ≤ 1048576) (q1 : Calls Tryd.prog 8 #[.string L] w fun e w' => (e = .returned (.tuple #[.string WH, .string R2])) ∧ ∃ nq, w' = w.drewN nq) (hR : Hid (Rs = failed)) :
    Calls Tryd.prog 7 #[.string L] w fun e w' => e = .returned (.tuple #[.string (bs Rs.1), .int .i64 Rs.2.1, .bool Rs.2.2]) ∧ Below w.heap.size w w' := by
  go_enter Tryd.func7, Tryd.ntmps7
  go_wp2_with fail
  refine q1.mono ?_
  rintro e w1 ⟨rfl, n1, rfl⟩
  clear q1
  go_wp2
  go_ret3
  exact ⟨ret_fail hR.out, ⟨rfl, rfl, rfl, Nat.le_refl _, fun _ _ => rfl⟩⟩

set_option maxRecDepth 100000 in
set_option maxHeartbeats 2000000 in
theorem sn_B_fail (L WH R1 R FR R2 : ByteArray) (Rs : Res) (w : World) (e1 : ¬ R1.toList = []) (f1 : R1.toList.isEmpty = false) (s1 : 0 < R1.size) (m1 : R1.size ≤ 1048576) (i1 : ∀ h, ((R1[0]'h).toNat : Int) = 46) (t1 : R1.extract 1 R1.size = R) (hw : WH.toList = []) (hw' : WH.toList.isEmpty = true) (lw : WH.size ≤ 1048576) (hf : FR.toList = []) (hf' : FR.toList.isEmpty = true) (lf : FR.size ≤ 1048576) (q1 : Calls Tryd.prog 8 #[.string L] w fun e w' => (e = .returned (.tuple #[.string WH, .string R1])) ∧ ∃ nq, w' = w.drewN nq) (q2 : ∀ W : World, Calls Tryd.prog 8 #[.string R] W fun e w' => (e = .returned (.tuple #[.string FR, .string R2])) ∧ ∃ nq, w' = W.drewN nq) (hR : Hid (Rs = failed)) :
    Calls Tryd.prog 7 #[.string L] w fun e w' => e = .returned (.tuple #[.string (bs Rs.1), .int .i64 Rs.2.1, .bool Rs.2.2]) ∧ Below w.heap.size w w' := by
  go_enter Tryd.func7, Tryd.ntmps7
  go_wp2_with fail
  refine q1.mono ?_
  rintro e w1 ⟨rfl, n1, rfl⟩
  clear q1
  go_wp2_with fail
  refine (q2 _).mono ?_
  rintro e w1 ⟨rfl, n2, rfl⟩
  clear q2
  go_wp2
  go_ret3
  exact ⟨ret_fail hR.out, ⟨rfl, rfl, rfl, Nat.le_refl _, fun _ _ => rfl⟩⟩

set_option maxRecDepth 100000 in
set_option maxHeartbeats 2000000 in
theorem sn_B1_nil (L WH R1 R FR R2 : ByteArray) (D : Bytes) (Rs : Res) (w : World) (e1 : ¬ R1.toList = []) (f1 : R1.toList.isEmpty = false) (s1 : 0 < R1.size) (m1 : R1.size ≤ 1048576) (i1 : ∀ h, ((R1[0]'h).toNat : Int) = 46) (t1 : R1.extract 1 R1.size = R) (e2 : R2.toList = []) (m2 : R2.size ≤ 1048576) (hw : WH.toList = []) (hw' : WH.toList.isEmpty = true) (lw : WH.size ≤ 1048576) (hf : ¬ FR.toList = []) (hf' : FR.toList.isEmpty = false) (lf : FR.size ≤ 1048576) (q1 : Calls Tryd.prog 8 #[.string L] w fun e w' => (e = .returned (.tuple #[.string WH, .string R1])) ∧ ∃ nq, w' = w.drewN nq) (q2 : ∀ W : World, Calls Tryd.prog 8 #[.string R] W fun e w' => (e = .returned (.tuple #[.string FR, .string R2])) ∧ ∃ nq, w' = W.drewN nq) (hD : Hid (WH ++ FR = bs D)) (hR : Hid (Rs = (D, -(FR.size : Int), true))) :
    Calls Tryd.prog 7 #[.string L] w fun e w' => e = .returned (.tuple #[.string (bs Rs.1), .int .i64 Rs.2.1, .bool Rs.2.2]) ∧ Below w.heap.size w w' := by
  go_enter Tryd.func7, Tryd.ntmps7
  go_wp2_with fail
  refine q1.mono ?_
  rintro e w1 ⟨rfl, n1, rfl⟩
  clear q1
  go_wp2_with fail
  refine (q2 _).mono ?_
  rintro e w1 ⟨rfl, n2, rfl⟩
  clear q2
  go_wp2
  go_ret3
  exact ⟨ret_at hR.out hD.out, ⟨rfl, rfl, rfl, Nat.le_refl _, fun _ _ => rfl⟩⟩

set_option maxRecDepth 100000 in
set_option maxHeartbeats 2000000 in
theorem sn_B1_notE46 (L WH R1 R FR R2 : ByteArray) (c : Int) (Rs : Res) (w : World) (e1 : ¬ R1.toList = []) (f1 : R1.toList.isEmpty = false) (s1 : 0 < R1.size) (m1 : R1.size ≤ 1048576) (i1 : ∀ h, ((R1[0]'h).toNat : Int) = 46) (t1 : R1.extract 1 R1.size = R) (e2 : ¬ R2.toList = []) (f2 : R2.toList.isEmpty = false) (s2 : 0 < R2.size) (m2 : R2.size ≤ 1048576) (i2 : ∀ h, ((R2[0]'h).toNat : Int) = c) (n101 : (c == 101) = false) (n69 : (c == 69) = false) (k101 : (c != 101) = true) (k69 : (c != 69) = true) (hw : WH.toList = []) (hw' : WH.toList.isEmpty = true) (lw : WH.size ≤ 1048576) (hf : ¬ FR.toList = []) (hf' : FR.toList.isEmpty = false) (lf : FR.size ≤ 1048576) (q1 : Calls Tryd.prog 8 #[.string L] w fun e w' => (e = .returned (.tuple #[.string WH, .string R1])) ∧ ∃ nq, w' = w.drewN nq) (q2 : ∀ W : World, Calls Tryd.prog 8 #[.string R] W fun e w' => (e = .returned (.tuple #[.string FR, .string R2])) ∧ ∃ nq, w' = W.drewN nq) (hR : Hid (Rs = failed)) :
    Calls Tryd.prog 7 #[.string L] w fun e w' => e = .returned (.tuple #[.string (bs Rs.1), .int .i64 Rs.2.1, .bool Rs.2.2]) ∧ Below w.heap.size w w' := by
  go_enter Tryd.func7, Tryd.ntmps7
  go_wp2_with fail
  refine q1.mono ?_
  rintro e w1 ⟨rfl, n1, rfl⟩
  clear q1
  go_wp2_with fail
  refine (q2 _).mono ?_
  rintro e w1 ⟨rfl, n2, rfl⟩
  clear q2
  go_wp2
  go_ret3
  exact ⟨ret_fail hR.out, ⟨rfl, rfl, rfl, Nat.le_refl _, fun _ _ => rfl⟩⟩

set_option maxRecDepth 100000 in
set_option maxHeartbeats 2000000 in
theorem sn_B2_nil (L WH R1 R FR R2 : ByteArray) (D : Bytes) (Rs : Res) (w : World) (e1 : ¬ R1.toList = []) (f1 : R1.toList.isEmpty = false) (s1 : 0 < R1.size) (m1 : R1.size ≤ 1048576) (i1 : ∀ h, ((R1[0]'h).toNat : Int) = 46) (t1 : R1.extract 1 R1.size = R) (e2 : R2.toList = []) (m2 : R2.size ≤ 1048576) (hw : ¬ WH.toList = []) (hw' : WH.toList.isEmpty = false) (lw : WH.size ≤ 1048576) (lf : FR.size ≤ 1048576) (q1 : Calls Tryd.prog 8 #[.string L] w fun e w' => (e = .returned (.tuple #[.string WH, .string R1])) ∧ ∃ nq, w' = w.drewN nq) (q2 : ∀ W : World, Calls Tryd.prog 8 #[.string R] W fun e w' => (e = .returned (.tuple #[.string FR, .string R2])) ∧ ∃ nq, w' = W.drewN nq) (hD : Hid (WH ++ FR = bs D)) (hR : Hid (Rs = (D, -(FR.size : Int), true))) :
    Calls Tryd.prog 7 #[.string L] w fun e w' => e = .returned (.tuple #[.string (bs Rs.1), .int .i64 Rs.2.1, .bool Rs.2.2]) ∧ Below w.heap.size w w' := by
  go_enter Tryd.func7, Tryd.ntmps7
  go_wp2_with fail
  refine q1.mono ?_
  rintro e w1 ⟨rfl, n1, rfl⟩
  clear q1
  go_wp2_with fail
  refine (q2 _).mono ?_
  rintro e w1 ⟨rfl, n2, rfl⟩
  clear q2
  go_wp2
  go_ret3
  exact ⟨ret_at hR.out hD.out, ⟨rfl, rfl, rfl, Nat.le_refl _, fun _ _ => rfl⟩⟩

set_option maxRecDepth 100000 in
set_option maxHeartbeats 2000000 in
theorem sn_B2_notE46 (L WH R1 R FR R2 : ByteArray) (c : Int) (Rs : Res) (w : World) (e1 : ¬ R1.toList = []) (f1 : R1.toList.isEmpty = false) (s1 : 0 < R1.size) (m1 : R1.size ≤ 1048576) (i1 : ∀ h, ((R1[0]'h).toNat : Int) = 46) (t1 : R1.extract 1 R1.size = R) (e2 : ¬ R2.toList = []) (f2 : R2.toList.isEmpty = false) (s2 : 0 < R2.size) (m2 : R2.size ≤ 1048576) (i2 : ∀ h, ((R2[0]'h).toNat : Int) = c) (n101 : (c == 101) = false) (n69 : (c == 69) = false) (k101 : (c != 101) = true) (k69 : (c != 69) = true) (hw : ¬ WH.toList = []) (hw' : WH.toList.isEmpty = false) (lw : WH.size ≤ 1048576) (lf : FR.size ≤ 1048576) (q1 : Calls Tryd.prog 8 #[.string L] w fun e w' => (e = .returned (.tuple #[.string WH, .string R1])) ∧ ∃ nq, w' = w.drewN nq) (q2 : ∀ W : World, Calls Tryd.prog 8 #[.string R] W fun e w' => (e = .returned (.tuple #[.string FR, .string R2])) ∧ ∃ nq, w' = W.drewN nq) (hR : Hid (Rs = failed)) :
    Calls Tryd.prog 7 #[.string L] w fun e w' => e = .returned (.tuple #[.string (bs Rs.1), .int .i64 Rs.2.1, .bool Rs.2.2]) ∧ Below w.heap.size w w' := by
  go_enter Tryd.func7, Tryd.ntmps7
  go_wp2_with fail
  refine q1.mono ?_
  rintro e w1 ⟨rfl, n1, rfl⟩
  clear q1
  go_wp2_with fail
  refine (q2 _).mono ?_
  rintro e w1 ⟨rfl, n2, rfl⟩
  clear q2
  go_wp2
  go_ret3
  exact ⟨ret_fail hR.out, ⟨rfl, rfl, rfl, Nat.le_refl _, fun _ _ => rfl⟩⟩

end Go.Proofs.Qxb6623503aDoor
