/-
  Rows.FnSplitDecimalMatchesGrammarSaid, and its tied card.
-/
import Derived.Test.Qxb6623503aDoorLaw
import Derived.Test.Qxb6623503aDoorTie
import Derived.Test.Qxb6623503aDoorCards
import Derived.SizedLaws
import Derived.ChangeSame
import Derived.ChangeVars
import Derived.ChangeMaps5
import Derived.JoinedOf
import Derived.JoinedAt
import Derived.RowKit
import Derived.RowKit3
import Derived.RowKitTokens
import Derived.LaidLaws
import Derived.Stop.LaidErr
import Derived.ShutString
namespace Go.Proofs.Qxb6623503aDoor
open Go.ChangeShapes Go.WideShapes Go.ChangeAt Go.RowKit
open Go.ChangeMaps (open_string shut_string)
set_option linter.unusedVariables false

theorem own : ownKnob Tryd.prog.godebug = none := by kernel_rfl

/-! What the list gives: strconv.ErrRange holds a sentinel. -/
theorem gER : Tryd.prog.globalNamed "strconv.ErrRange" = some 1 := by kernel_rfl
theorem gERType : (Tryd.prog.globals[1]?).map (·.type) = some 29 := by kernel_rfl
theorem cells52 : Tryd.prog.cellsOf 52 = 1 := by kernel_rfl
theorem cells9 : Tryd.prog.cellsOf 9 = 1 := by kernel_rfl
theorem row50 (u : TypeId) (h : Tryd.prog.typeName? 3 u = some "*errors.errorString") : u = 50 :=
  typeName_ptr_named (nm := "errors.errorString") (by rw [show "*" ++ "errors.errorString" = "*errors.errorString" by decide]; kernel_rfl) (by kernel_rfl) (by decide) u (by rw [show "*" ++ "errors.errorString" = "*errors.errorString" by decide]; exact h)

theorem var_ok (w : World) (hL : laidMet Tryd.prog Rows.fnSplitDecimalMatchesGrammarRow.laid w) : VarOk w := by
  have h3 : laidMet Tryd.prog (("strconv.ErrRange", Rows.laid_strconv_ErrRange) :: [("strconv.ErrSyntax", Rows.laid_strconv_ErrSyntax)]) w := hL.tail.tail.tail
  obtain ⟨a1, s1, hv1, -, -, -⟩ := laid_sentinel h3 gER gERType Tryd.underlying29 row50 Tryd.underlying50 Tryd.underlying52 rfl rfl Tryd.underlying9 cells52 cells9
  exact ⟨_, by have h0 := World.var?_cell gER hv1 0; simpa using h0, .inr ⟨_, _, rfl⟩⟩

/-! One start that fits. -/
abbrev synS : ByteArray := { data := #[105, 110, 118, 97, 108, 105, 100, 32, 115, 121, 110, 116, 97, 120] }
abbrev rngS : ByteArray := { data := #[118, 97, 108, 117, 101, 32, 111, 117, 116, 32, 111, 102, 32, 114, 97, 110, 103, 101] }
/-- The five variables laid as their initialisers lay them; 'low', 'low + 1': the blocks of the two errors. -/
def laidIn (w0 : World) (low : Nat) : World :=
  { w0 with heap := ((((w0.heap.modify 0 fun
      | .cells _ t frozen => .cells #[.iface 50 (.pointer (some ⟨low, 0, none⟩))] t frozen
      | o => o).modify 1 fun
      | .cells _ t frozen => .cells #[.iface 50 (.pointer (some ⟨low + 1, 0, none⟩))] t frozen
      | o => o).modify 2 fun
      | .cells _ t frozen => .cells #[.int .u64 1, .int .u64 10, .int .u64 100, .int .u64 1000, .int .u64 10000, .int .u64 100000, .int .u64 1000000, .int .u64 10000000, .int .u64 100000000, .int .u64 1000000000, .int .u64 10000000000, .int .u64 100000000000, .int .u64 1000000000000, .int .u64 10000000000000, .int .u64 100000000000000, .int .u64 1000000000000000, .int .u64 10000000000000000, .int .u64 100000000000000000, .int .u64 1000000000000000000, .int .u64 10000000000000000000] t frozen
      | o => o).modify 3 fun
      | .cells _ t frozen => .cells #[.int .u8 0, .int .u8 1, .int .u8 28, .int .u8 2, .int .u8 29, .int .u8 14, .int .u8 24, .int .u8 3, .int .u8 30, .int .u8 22, .int .u8 20, .int .u8 15, .int .u8 25, .int .u8 17, .int .u8 4, .int .u8 8, .int .u8 31, .int .u8 27, .int .u8 13, .int .u8 23, .int .u8 21, .int .u8 19, .int .u8 16, .int .u8 7, .int .u8 26, .int .u8 12, .int .u8 18, .int .u8 6, .int .u8 11, .int .u8 5, .int .u8 10, .int .u8 9] t frozen
      | o => o).modify 4 fun
      | .cells _ t frozen => .cells #[.int .u8 0, .int .u8 1, .int .u8 56, .int .u8 2, .int .u8 57, .int .u8 49, .int .u8 28, .int .u8 3, .int .u8 61, .int .u8 58, .int .u8 42, .int .u8 50, .int .u8 38, .int .u8 29, .int .u8 17, .int .u8 4, .int .u8 62, .int .u8 47, .int .u8 59, .int .u8 36, .int .u8 45, .int .u8 43, .int .u8 51, .int .u8 22, .int .u8 53, .int .u8 39, .int .u8 33, .int .u8 30, .int .u8 24, .int .u8 18, .int .u8 12, .int .u8 5, .int .u8 63, .int .u8 55, .int .u8 48, .int .u8 27, .int .u8 60, .int .u8 41, .int .u8 37, .int .u8 16, .int .u8 46, .int .u8 35, .int .u8 44, .int .u8 21, .int .u8 52, .int .u8 32, .int .u8 23, .int .u8 11, .int .u8 54, .int .u8 26, .int .u8 40, .int .u8 15, .int .u8 34, .int .u8 20, .int .u8 31, .int .u8 10, .int .u8 25, .int .u8 14, .int .u8 19, .int .u8 9, .int .u8 13, .int .u8 8, .int .u8 7, .int .u8 6] t frozen
      | o => o }

theorem laidWorld_met (os : Os) (args : Array Value) : laidMet Tryd.prog Rows.fnSplitDecimalMatchesGrammarRow.laid ((laidIn (World.holding Tryd.prog os ⟨#[.cells #[.string synS] 52, .cells #[.string rngS] 52], #[], []⟩) (World.holding Tryd.prog default ⟨#[], #[], []⟩).heap.size).forCall (fun _ _ => 0) ⟨#[], args, []⟩).memory :=
  laidMet_of_run (ps := MemPlace.row ⟨3, 0, none⟩ 32 ++ MemPlace.row ⟨4, 0, none⟩ 64 ++ MemPlace.row ⟨2, 0, none⟩ 20 ++ [.cell 1 0, .cell ((World.holding Tryd.prog default ⟨#[], #[], []⟩).heap.size + 1) 0, .cell 0 0, .cell (World.holding Tryd.prog default ⟨#[], #[], []⟩).heap.size 0]) 8 (by kernel_rfl) (by kernel_rfl) (by kernel_rfl)

set_option maxRecDepth 100000 in
theorem lifted (os : Os) (started : os.Started) (H : Type) (enc : TypeId × Value → H) :
    ReturnsInHanded {} Tryd.checked os 3 .any (fun w args => (Rows.fnSplitDecimalMatchesGrammarSpec.pre enc Tryd.prog Tryd.f3 Rows.fnSplitDecimalMatchesGrammarRow.domain false w args ∧ laidMet Tryd.prog Rows.fnSplitDecimalMatchesGrammarRow.laid w) ∧ sizedMet enc Tryd.prog Tryd.f3 (OpenSpec.ofChange Rows.fnSplitDecimalMatchesGrammarSpec) false w args)
      (Rows.fnSplitDecimalMatchesGrammarSpec.post enc Tryd.prog Tryd.f3 false true false false) := by
  refine returnsInHanded_of_change_and (C := Tryd.checked) (X := fun w _ => laidMet Tryd.prog Rows.fnSplitDecimalMatchesGrammarRow.laid w) (fun _ _ _ hh h => h.of_heap hh) own started (by kernel_rfl) Tryd.func3
    (ChangeSpec.witness_at (enc := enc) (C := Tryd.checked) (os := os) (X := fun w _ => laidMet Tryd.prog Rows.fnSplitDecimalMatchesGrammarRow.laid w) false (laidIn (World.holding Tryd.prog os ⟨#[.cells #[.string synS] 52, .cells #[.string rngS] 52], #[], []⟩) (World.holding Tryd.prog default ⟨#[], #[], []⟩).heap.size) #[.string ⟨#[]⟩] 8 rfl (by kernel_rfl) (by kernel_rfl) (by kernel_rfl) (by kernel_rfl) (by kernel_rfl) (laidWorld_met os _)) ?_
  intro W base args ds gs before hval0 hW _ hsz0 hL _
  have hval : ∀ (j : Nat) t v, Tryd.f3.params[j]? = some t → args[j]? = some v → Value.okWide Tryd.prog W .any base t v := hval0
  have hW' := hW
  obtain ⟨p, q, hA0, hV, rfl, hfz, hnd⟩ := hW
  have hA : DataW.TrodAll enc Tryd.prog W 0 (fun _ => true) true Tryd.f3.params.toList args.toList ds p := hA0
  rw [Tryd.params3] at hA hval
  obtain ⟨v0, d0, rfl, rfl, h0⟩ := trodAll_one hA
  obtain ⟨rfl, rfl⟩ := trodVars_none hV
  obtain ⟨s, rfl, rfl, rfl, hs⟩ := open_string Tryd.underlying9 (hval 0 9 v0 rfl rfl) h0
  clear hA0 hval0
  refine (law_any s W hs (var_ok W hL)).mono fun e W' ⟨he, bel⟩ => ?_
  subst he
  exact ⟨_, rfl, _, _, _, [], [], [], hW', trodAll_mk1 (shut_bool Tryd.underlying4 _), trodAll_mk1 (shut_string Tryd.underlying9 hs), rfl, bel.frame _, fun h => by cases h⟩

theorem row_holds : Rows.FnSplitDecimalMatchesGrammarSaid :=
  OpenClaim.holds_of_wide 3 Tryd.f3 rfl rfl rfl rfl rfl rfl rfl ⟨rfl, rfl, rfl, rfl, rfl⟩ rfl rfl rfl rfl rfl (by kernel_rfl) Tryd.func3 (by kernel_rfl)
    (of_decide_eq_true (by kernel_rfl)) (by unfold Func.isWrapper; first | (rw [if_pos (by decide +kernel)]; kernel_rfl) | (rw [if_neg (by decide +kernel)]; exact ⟨rfl, rfl⟩))
    (fun os started H enc _ => lifted os started H enc)

theorem card_holds : Rows.FnSplitDecimalMatchesGrammarCardSaid :=
  Claim7.holds_tied_plain_at .later [] [.data, .data, .data, .sentinel, .sentinel] true (true, "71fccc14613e174046cdaa71262d65dc9ff1a9dbe42579be5045492236c8215b") true
    row_holds (fun _ h => by cases h) (by kernel_rfl) (fun _ h => by cases h) fnSplitDecimalMatchesGrammar_row_tie rfl ⟨rfl, rfl⟩ (by kernel_rfl) rfl
    (fun f fn hf hfn => by
      obtain rfl : f = 3 := Option.some.inj ((show Tryd.prog.funcNamed Rows.fnSplitDecimalMatchesGrammarRow.func = some 3 by kernel_rfl).symm.trans hf) |>.symm
      obtain rfl : fn = Tryd.f3 := (Option.some.inj (Tryd.func3.symm.trans hfn)).symm
      exact ⟨by kernel_rfl, fun j t ht => by
        rw [Tryd.params3] at ht
        have h9 : t = 9 := by
          rcases j with _ | j
          · simpa using ht.symm
          · simp at ht
        subst h9
        exact (show Tryd.prog.wantsStandIn 9 = false by kernel_rfl)⟩)
    (by kernel_rfl)
#print axioms card_holds
end Go.Proofs.Qxb6623503aDoor
