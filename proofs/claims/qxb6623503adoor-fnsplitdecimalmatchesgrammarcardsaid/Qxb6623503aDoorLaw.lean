/-
  FnSplitDecimalMatchesGrammar (3).
-/
import Derived.Test.Qxb6623503aDoorMoAll
namespace Go.Proofs.Qxb6623503aDoor
open Go.RowKit
set_option linter.unusedVariables false

set_option maxHeartbeats 1000000 in
theorem law_out (L : ByteArray) (w : World) (hm : L.size ≤ 2 ^ 63 - 1) (hl : ¬ L.size ≤ 1048576) :
    Calls Tryd.prog 3 #[.string L] w fun e w' => e = .returned (.bool true) ∧ w' = w := by
  have qb := bytes_any L w hm
  go_enter Tryd.func3, Tryd.ntmps3
  go_wp2_with fail
  refine qb.mono ?_
  rintro e w' ⟨⟨b, rfl⟩, hw⟩
  obtain rfl := hw.symm
  clear qb
  go_wp2_with fail
  all_goals (go_ret; exact ⟨rfl, rfl⟩)

set_option maxHeartbeats 1000000 in
theorem law_in (L D : ByteArray) (x : Int) (b : Bool) (w : World) (hl : L.size ≤ 1048576)
    (q5 : Calls Tryd.prog 5 #[.string L] w fun e w' => e = .returned (.tuple #[.string D, .int .i64 x, .bool b]) ∧ Below w.heap.size w w')
    (q6 : ∀ W : World, Below w.heap.size w W → Calls Tryd.prog 6 #[.string L] W fun e w' => e = .returned (.tuple #[.string D, .int .i64 x, .bool b]) ∧ Below W.heap.size W w') :
    Calls Tryd.prog 3 #[.string L] w fun e w' => e = .returned (.bool true) ∧ Below w.heap.size w w' := by
  have qb := bytes_any L w (by omega)
  go_enter Tryd.func3, Tryd.ntmps3
  go_wp2_with fail
  refine qb.mono ?_
  rintro e w' ⟨⟨b', rfl⟩, hw⟩
  obtain rfl := hw.symm
  clear qb
  go_wp2_with fail
  all_goals (try (go_ret; exact ⟨rfl, Below.refl _ _⟩))
  refine q5.mono ?_
  rintro e w1 ⟨rfl, h1⟩
  clear q5
  go_wp2_with fail
  refine (q6 w1 h1).mono ?_
  rintro e w2 ⟨rfl, h2⟩
  have h3 : Below w.heap.size w w2 := h1.trans (h2.mono h1.size)
  clear q6 h1 h2
  go_wp2
  go_ret
  exact ⟨rfl, h3⟩

theorem law_any (s : ByteArray) (w : World) (hm : s.size ≤ maxLen) (hV : VarOk w) :
    Calls Tryd.prog 3 #[.string s] w fun e w' => e = .returned (.bool true) ∧ Below w.heap.size w w' := by
  unfold maxLen at hm
  by_cases hl : s.size ≤ 1048576
  · have hl2 : s.data.toList.length ≤ 1048576 := by simpa using hl
    have q5 := model_any s.data.toList w hl2
    rw [model_split] at q5
    exact law_in s _ _ _ w hl q5 (fun W hW => zz_any _ _ _ _ W (split_any s.data.toList W hl2 (hV.below hW)))
  · refine (law_out s w hm hl).mono ?_
    rintro e w' ⟨rfl, rfl⟩
    exact ⟨rfl, Below.refl _ _⟩

end Go.Proofs.Qxb6623503aDoor
