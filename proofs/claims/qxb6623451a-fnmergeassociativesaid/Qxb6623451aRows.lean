/-
  No cell of these rows narrows 'for every input' (looked for: loops, veiled, ifaces, maps, wideKeys, modest, calm, conditions, laid).
  DERIVED. THE GIVEN ROWS OF THIS SEAT. 2 by the template 'for every input the law returns true; each argument reads behind the call as it read before'; 0 by the template 'total and deterministic' (their statements: Qxb6623451aTotals.lean).
  GIVEN WITH THE SEED: the statements are not yours to turn. If you find one false, say at which input.
  Laid BY PROGRAM, IN A SANDBOX (cutbox-rows.mjs): the forced cells as the released guide's own fill.sh prints them over the translation 45c35c9f2733d93c… (all of the seat's roots in one cut). By AI agents, Wed Nov 11 2026. No macro, syntax, notation, axiom, sorry.
-/
import Derived.Test.Qxb6623451aChecked
import GoSem.Claim
import GoSem.ClaimJoined
import GoSem.ClaimMapViews
import Derived.JoinedTies
import Derived.KernelRfl
namespace Go.Proofs.Qxb6623451a
/- THE CELL 'sum', in the pinned program and in every row, IS THE sha256 OF THE DUMP (.gsa) THAT Qxb6623451aProg.lean LOADS. Nothing in Lean hashes anything: it is a label: what it is worth is what the hold of that sum in a sandbox is worth. -/
noncomputable def Try.pinned : Pinned := { name := "qxb6623451a", sum := "45c35c9f2733d93c110a14084dedf477eb5fc1b5d750a4a7ce3fcc314a48474a", checked := Try.checked }
namespace Rows
def none {H : Type} : Left H := { results := [], args := [] }

/-- 'zzlaws_internal_jsonschema_b1.FnMergeInPiecesEqualsWhole': WHATEVER THE INPUT: true; the input reads as it did. -/
def fnMergeInPiecesEqualsWholeSpec : ChangeSpec := { name := "fnMergeInPiecesEqualsWhole", fn := fun _ => fun
  | [d1, d2, d3, d4, d5, d6, d7, d8, d9, d10, d11, d12] => { results := [.lit (.bool true)], args := [d1, d2, d3, d4, d5, d6, d7, d8, d9, d10, d11, d12] }
  | _ => none }
def fnMergeInPiecesEqualsWholeRow : OpenClaim := { program := "qxb6623451a", sum := "45c35c9f2733d93c110a14084dedf477eb5fc1b5d750a4a7ce3fcc314a48474a", func := "example.com/sextant/sextant/zzlaws_internal_jsonschema_b1.FnMergeInPiecesEqualsWhole", spec := "fnMergeInPiecesEqualsWhole", apart := false }
def FnMergeInPiecesEqualsWholeSaid : Prop := fnMergeInPiecesEqualsWholeRow.holds Try.pinned (OpenSpec.ofChange fnMergeInPiecesEqualsWholeSpec)

/-- ITS FALSE NEIGHBOUR: 'it returns false'. Refute it at one input. -/
def fnMergeInPiecesEqualsWholeWrong : ChangeSpec := { name := "fnMergeInPiecesEqualsWhole", fn := fun _ => fun
  | [d1, d2, d3, d4, d5, d6, d7, d8, d9, d10, d11, d12] => { results := [.lit (.bool false)], args := [d1, d2, d3, d4, d5, d6, d7, d8, d9, d10, d11, d12] }
  | _ => none }
def FnMergeInPiecesEqualsWholeWrongFalsely : Prop := fnMergeInPiecesEqualsWholeRow.holds Try.pinned (OpenSpec.ofChange fnMergeInPiecesEqualsWholeWrong)

/-- 'zzlaws_internal_jsonschema_b1.FnMergeAssociative': WHATEVER THE INPUT: true; the input reads as it did. -/
def fnMergeAssociativeSpec : ChangeSpec := { name := "fnMergeAssociative", fn := fun _ => fun
  | [d1, d2, d3, d4, d5, d6, d7, d8, d9, d10, d11, d12] => { results := [.lit (.bool true)], args := [d1, d2, d3, d4, d5, d6, d7, d8, d9, d10, d11, d12] }
  | _ => none }
def fnMergeAssociativeRow : OpenClaim := { program := "qxb6623451a", sum := "45c35c9f2733d93c110a14084dedf477eb5fc1b5d750a4a7ce3fcc314a48474a", func := "example.com/sextant/sextant/zzlaws_internal_jsonschema_b1.FnMergeAssociative", spec := "fnMergeAssociative", apart := false }
def FnMergeAssociativeSaid : Prop := fnMergeAssociativeRow.holds Try.pinned (OpenSpec.ofChange fnMergeAssociativeSpec)

/-- ITS FALSE NEIGHBOUR: 'it returns false'. Refute it at one input. -/
def fnMergeAssociativeWrong : ChangeSpec := { name := "fnMergeAssociative", fn := fun _ => fun
  | [d1, d2, d3, d4, d5, d6, d7, d8, d9, d10, d11, d12] => { results := [.lit (.bool false)], args := [d1, d2, d3, d4, d5, d6, d7, d8, d9, d10, d11, d12] }
  | _ => none }
def FnMergeAssociativeWrongFalsely : Prop := fnMergeAssociativeRow.holds Try.pinned (OpenSpec.ofChange fnMergeAssociativeWrong)

end Rows
end Go.Proofs.Qxb6623451a
