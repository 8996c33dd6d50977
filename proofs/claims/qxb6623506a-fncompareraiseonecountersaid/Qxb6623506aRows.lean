/-
  No cell of these rows narrows 'for every input' (looked for: loops, veiled, ifaces, maps, wideKeys, modest, calm, conditions, laid).
  DERIVED. THE GIVEN ROWS OF THIS SEAT. 2 by the template 'for every input the law returns true; each argument reads behind the call as it read before'; 0 by the template 'total and deterministic' (their statements: Qxb6623506aTotals.lean).
  GIVEN WITH THE SEED: the statements are not yours to turn. If you find one false, say at which input.
  Laid BY PROGRAM, IN A SANDBOX (cutbox-rows.mjs): the forced cells as the released guide's own fill.sh prints them over the translation 1c084b1ba4f64873… (all of the seat's roots in one cut). By AI agents, Wed Nov 11 2026. No macro, syntax, notation, axiom, sorry.
-/
import Derived.Test.Qxb6623506aChecked
import GoSem.Claim
import GoSem.ClaimJoined
import GoSem.ClaimMapViews
import Derived.JoinedTies
import Derived.KernelRfl
namespace Go.Proofs.Qxb6623506a
/- THE CELL 'sum', in the pinned program and in every row, IS THE sha256 OF THE DUMP (.gsa) THAT Qxb6623506aProg.lean LOADS. Nothing in Lean hashes anything: it is a label: what it is worth is what the hold of that sum in a sandbox is worth. -/
noncomputable def Try.pinned : Pinned := { name := "qxb6623506a", sum := "1c084b1ba4f64873c9fe44d0085a7678547ed4c6c2245be7d80c9b7737d5898f", checked := Try.checked }
namespace Rows
def none {H : Type} : Left H := { results := [], args := [] }

/-- 'zzlaws_score_b1.FnCompareMatchesDenseOrder': WHATEVER THE INPUT: true; the input reads as it did. -/
def fnCompareMatchesDenseOrderSpec : ChangeSpec := { name := "fnCompareMatchesDenseOrder", fn := fun _ => fun
  | [d1, d2, d3, d4] => { results := [.lit (.bool true)], args := [d1, d2, d3, d4] }
  | _ => none }
def fnCompareMatchesDenseOrderRow : OpenClaim := { program := "qxb6623506a", sum := "1c084b1ba4f64873c9fe44d0085a7678547ed4c6c2245be7d80c9b7737d5898f", func := "example.com/precedes/precedes/zzlaws_score_b1.FnCompareMatchesDenseOrder", spec := "fnCompareMatchesDenseOrder", apart := false }
def FnCompareMatchesDenseOrderSaid : Prop := fnCompareMatchesDenseOrderRow.holds Try.pinned (OpenSpec.ofChange fnCompareMatchesDenseOrderSpec)

/-- ITS FALSE NEIGHBOUR: 'it returns false'. Refute it at one input. -/
def fnCompareMatchesDenseOrderWrong : ChangeSpec := { name := "fnCompareMatchesDenseOrder", fn := fun _ => fun
  | [d1, d2, d3, d4] => { results := [.lit (.bool false)], args := [d1, d2, d3, d4] }
  | _ => none }
def FnCompareMatchesDenseOrderWrongFalsely : Prop := fnCompareMatchesDenseOrderRow.holds Try.pinned (OpenSpec.ofChange fnCompareMatchesDenseOrderWrong)

/-- 'zzlaws_score_b1.FnCompareRaiseOneCounter': WHATEVER THE INPUT: true; the input reads as it did. -/
def fnCompareRaiseOneCounterSpec : ChangeSpec := { name := "fnCompareRaiseOneCounter", fn := fun _ => fun
  | [d1, d2, d3, d4] => { results := [.lit (.bool true)], args := [d1, d2, d3, d4] }
  | _ => none }
def fnCompareRaiseOneCounterRow : OpenClaim := { program := "qxb6623506a", sum := "1c084b1ba4f64873c9fe44d0085a7678547ed4c6c2245be7d80c9b7737d5898f", func := "example.com/precedes/precedes/zzlaws_score_b1.FnCompareRaiseOneCounter", spec := "fnCompareRaiseOneCounter", apart := false }
def FnCompareRaiseOneCounterSaid : Prop := fnCompareRaiseOneCounterRow.holds Try.pinned (OpenSpec.ofChange fnCompareRaiseOneCounterSpec)

/-- ITS FALSE NEIGHBOUR: 'it returns false'. Refute it at one input. -/
def fnCompareRaiseOneCounterWrong : ChangeSpec := { name := "fnCompareRaiseOneCounter", fn := fun _ => fun
  | [d1, d2, d3, d4] => { results := [.lit (.bool false)], args := [d1, d2, d3, d4] }
  | _ => none }
def FnCompareRaiseOneCounterWrongFalsely : Prop := fnCompareRaiseOneCounterRow.holds Try.pinned (OpenSpec.ofChange fnCompareRaiseOneCounterWrong)

end Rows
end Go.Proofs.Qxb6623506a
