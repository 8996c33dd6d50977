/-
  What comes in, as the walks read it.
-/
import Derived.Test.Qxb6623506aLeaf
namespace Go.Proofs.Qxb6623506a
open Go.RowKit
set_option linter.unusedVariables false

theorem u64_of {n : Int} (h : (Lit.int .u64 n).wf = true) : 0 ≤ n ∧ n ≤ 18446744073709551615 := by
  simp [Lit.wf, IntKind.min, IntKind.max, IntKind.signed, IntKind.bits] at h
  omega

theorem spot_none {w : World} {x : Addr} {v : Value} (h : w.cell? x = some v) : x = ⟨x.block, x.off, none⟩ := by
  obtain ⟨b, o, sp⟩ := x
  cases sp with
  | none => rfl
  | some s =>
    exfalso
    unfold World.cell? at h
    cases hq : w.heap[b]? with
    | none => simp [hq] at h
    | some ob => cases ob <;> simp [hq] at h

theorem row_open {k : IntKind} {w : World} {a : Option Addr} {len cap : Nat} {zs : List Int}
    (h : (a = none ∧ len = 0 ∧ cap = 0 ∧ zs = []) ∨
      ∃ x, a = some x ∧ len ≤ cap ∧ cap ≤ maxLen ∧ zs.length = cap ∧ (∀ i, i < zs.length → w.cell? (x.add i) = some (.int k (zs.getD i 0))) ∧ ∀ n ∈ zs, (Lit.int k n).wf = true) :
    RowOf w a len (fun i => .int k (zs.getD i 0)) ∧ len ≤ maxLen ∧ ∀ i, (Lit.int k (zs.getD i 0)).wf = true := by
  have hz : (Lit.int k 0).wf = true := by cases k <;> decide
  rcases h with ⟨rfl, rfl, rfl, rfl⟩ | ⟨x, rfl, hl, hm, hz2, hc, hw⟩
  · exact ⟨fun i hi => absurd hi (Nat.not_lt_zero _), Nat.zero_le _, fun i => hz⟩
  · refine ⟨fun i hi => ?_, Nat.le_trans hl hm, fun i => ?_⟩
    · have h0 := hc 0 (by omega)
      have e0 : x.add 0 = x := by simp [Addr.add]
      rw [e0] at h0
      have e := spot_none h0
      have h1 := hc i (by omega)
      rw [e, Addr.add_lit] at h1
      exact ⟨x.block, x.off, congrArg some e, h1⟩
    · by_cases hi : i < zs.length
      · have e : zs.getD i 0 = zs[i] := by simp [List.getD, hi]
        rw [e]
        exact hw _ (List.getElem_mem hi)
      · have e : zs.getD i 0 = 0 := by
          simp [List.getD, List.getElem?_eq_none (show zs.length ≤ i by omega)]
        rw [e]
        exact hz

end Go.Proofs.Qxb6623506a
