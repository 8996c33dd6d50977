/-
  THE ARGUMENTS, OPENED.
-/
import Derived.Test.Qxb6623451aParts
import Derived.ProofKit
import Derived.OpenShut
import Derived.ShutString
import Derived.ChangeOld
import Derived.Below
import Derived.Deep.Grids
namespace Go.Proofs.Qxb6623451a
open Go.ChangeShapes Go.WideShapes Go.ChangeAt Go.RowKit
set_option linter.unusedVariables false

theorem own : ownKnob Try.prog.godebug = none := by kernel_rfl
theorem laidOut : laidOutB Try.prog = true := by kernel_rfl
theorem cells9 : Try.prog.cellsOf 9 = 1 := by kernel_rfl
theorem cells4 : Try.prog.cellsOf 4 = 1 := by kernel_rfl
theorem cells3 : Try.prog.cellsOf 3 = 1 := by kernel_rfl

theorem row_of {w : World} {x : Addr} {m n : Nat} {f : Nat → Value} (h : ∀ i, i < m → w.cell? (x.add i) = some (f i)) (hn : n ≤ m) : RowOf w (some x) n f := by
  intro i hi
  obtain ⟨b, off, spot⟩ := x
  have hspot : spot = none := by simpa [Addr.add] using World.cell?_spot (h 0 (by omega))
  subst hspot
  exact ⟨b, off, rfl, by rw [← Go.WideShapes.add_plain]; exact h i (by omega)⟩

theorem open22 {H : Type} {enc : TypeId × Value → H} {W : World} {a : Option Addr} {len cap : Nat} {d : DataW H} {p : List MemPlace} (h : DataW.Trod enc Try.prog W 0 (fun _ => true) true 22 (.slice a len cap) d p) :
    ∃ ss : Nat → ByteArray, (a = none → len = 0) ∧ RowOf W a len (fun j => .string (ss j)) ∧ (∀ j, j < len → (ss j).size ≤ maxLen) ∧ len ≤ maxLen := by
  obtain ⟨fuel, hf⟩ := h
  rcases open_strings Try.underlying22 Try.underlying9 cells9 hf with ⟨hcs, _⟩ | ⟨x, l, c, ss, hcs, _, hl, hm, hz, _, hcell, hwz⟩
  · simp [Value.cells] at hcs
    obtain ⟨rfl, rfl, rfl⟩ := hcs
    exact ⟨fun _ => ByteArray.empty, fun _ => rfl, fun i hi => absurd hi (Nat.not_lt_zero _), fun j hj => absurd hj (Nat.not_lt_zero _), Nat.zero_le _⟩
  · simp [Value.cells] at hcs
    obtain ⟨rfl, rfl, rfl⟩ := hcs
    have hz' : ss.length = cap := by simpa using hz
    refine ⟨fun j => ss.getD j ByteArray.empty, fun e => (by cases e), row_of hcell (by omega), fun j hj => ?_, by omega⟩
    show (ss.getD j ByteArray.empty).size ≤ maxLen
    rw [List.getD, List.getElem?_eq_getElem (by omega)]
    exact hwz _ (List.getElem_mem _)

theorem open23 {H : Type} {enc : TypeId × Value → H} {W : World} {a : Option Addr} {len cap : Nat} {d : DataW H} {p : List MemPlace} (h : DataW.Trod enc Try.prog W 0 (fun _ => true) true 23 (.slice a len cap) d p) :
    ∃ vs : Nat → Bool, RowOf W a len (fun j => .bool (vs j)) ∧ len ≤ maxLen := by
  obtain ⟨fuel, hf⟩ := h
  rcases Go.Deep.open_bools Try.underlying23 Try.underlying4 cells4 hf with ⟨hcs, _⟩ | ⟨x, l, c, B, hcs, _, hl, hm, _, hcell⟩
  · simp [Value.cells] at hcs
    obtain ⟨rfl, rfl, rfl⟩ := hcs
    exact ⟨fun _ => true, fun i hi => absurd hi (Nat.not_lt_zero _), Nat.zero_le _⟩
  · simp [Value.cells] at hcs
    obtain ⟨rfl, rfl, rfl⟩ := hcs
    exact ⟨B, row_of hcell hl, by omega⟩

theorem open24 {H : Type} {enc : TypeId × Value → H} {W : World} {a : Option Addr} {len cap : Nat} {d : DataW H} {p : List MemPlace} (h : DataW.Trod enc Try.prog W 0 (fun _ => true) true 24 (.slice a len cap) d p) :
    ∃ zs : Nat → Int, (a = none → len = 0) ∧ RowOf W a len (fun j => .int .i64 (zs j)) ∧ (∀ j, j < len → (Lit.int .i64 (zs j)).wf = true) ∧ len ≤ maxLen := by
  obtain ⟨fuel, hf⟩ := h
  rcases open_ints Try.underlying24 Try.underlying3 cells3 hf with ⟨hcs, _⟩ | ⟨x, l, c, zs, hcs, _, hl, hm, hz, _, hcell, hwz⟩
  · simp [Value.cells] at hcs
    obtain ⟨rfl, rfl, rfl⟩ := hcs
    exact ⟨fun _ => 0, fun _ => rfl, fun i hi => absurd hi (Nat.not_lt_zero _), fun j hj => absurd hj (Nat.not_lt_zero _), Nat.zero_le _⟩
  · simp [Value.cells] at hcs
    obtain ⟨rfl, rfl, rfl⟩ := hcs
    have hz' : zs.length = cap := by simpa using hz
    refine ⟨fun j => zs.getD j 0, fun e => (by cases e), row_of hcell (by omega), fun j hj => ?_, by omega⟩
    show (Lit.int .i64 (zs.getD j 0)).wf = true
    rw [List.getD, List.getElem?_eq_getElem (by omega)]
    exact hwz _ (List.getElem_mem _)

end Go.Proofs.Qxb6623451a
