/-
  No cell of these rows narrows 'for every input' (looked for: loops, veiled, ifaces, maps, wideKeys, modest, calm, conditions, laid).
  DERIVED. THE GIVEN ROWS OF THIS SEAT. 1 by the template 'for every input the law returns true; each argument reads behind the call as it read before'; 0 by the template 'total and deterministic' (their statements: Qxb6623460aTotals.lean).
  GIVEN WITH THE SEED: the statements are not yours to turn. If you find one false, say at which input.
  Laid BY PROGRAM, IN A SANDBOX (cutbox-rows.mjs): the forced cells as the released guide's own fill.sh prints them over the translation f6d8e29c9f69f48c… (all of the seat's roots in one cut). By AI agents, Wed Nov 11 2026. No macro, syntax, notation, axiom, sorry.
-/
import Derived.Test.Qxb6623460aChecked
import GoSem.Claim
import GoSem.ClaimJoined
import GoSem.ClaimMapViews
import Derived.JoinedTies
import Derived.KernelRfl
namespace Go.Proofs.Qxb6623460a
/- THE CELL 'sum', in the pinned program and in every row, IS THE sha256 OF THE DUMP (.gsa) THAT Qxb6623460aProg.lean LOADS. Nothing in Lean hashes anything: it is a label: what it is worth is what the hold of that sum in a sandbox is worth. -/
noncomputable def Try.pinned : Pinned := { name := "qxb6623460a", sum := "f6d8e29c9f69f48c500ee481037bd4e8b40d3b54e97cfe716bbb31351af70c8f", checked := Try.checked }
namespace Rows
def none {H : Type} : Left H := { results := [], args := [] }

/-- 'zzlaws_internal_strictjson_b1.FnEscapeLengthJSONEscapePrefix': WHATEVER THE INPUT: true; the input reads as it did. -/
def fnEscapeLengthJSONEscapePrefixSpec : ChangeSpec := { name := "fnEscapeLengthJSONEscapePrefix", fn := fun _ => fun
  | [d1, d2] => { results := [.lit (.bool true)], args := [d1, d2] }
  | _ => none }
def fnEscapeLengthJSONEscapePrefixRow : OpenClaim := { program := "qxb6623460a", sum := "f6d8e29c9f69f48c500ee481037bd4e8b40d3b54e97cfe716bbb31351af70c8f", func := "example.com/identity-passport/identity-passport/zzlaws_internal_strictjson_b1.FnEscapeLengthJSONEscapePrefix", spec := "fnEscapeLengthJSONEscapePrefix", apart := false }
def FnEscapeLengthJSONEscapePrefixSaid : Prop := fnEscapeLengthJSONEscapePrefixRow.holds Try.pinned (OpenSpec.ofChange fnEscapeLengthJSONEscapePrefixSpec)

/-- ITS FALSE NEIGHBOUR: 'it returns false'. Refute it at one input. -/
def fnEscapeLengthJSONEscapePrefixWrong : ChangeSpec := { name := "fnEscapeLengthJSONEscapePrefix", fn := fun _ => fun
  | [d1, d2] => { results := [.lit (.bool false)], args := [d1, d2] }
  | _ => none }
def FnEscapeLengthJSONEscapePrefixWrongFalsely : Prop := fnEscapeLengthJSONEscapePrefixRow.holds Try.pinned (OpenSpec.ofChange fnEscapeLengthJSONEscapePrefixWrong)

end Rows
end Go.Proofs.Qxb6623460a
