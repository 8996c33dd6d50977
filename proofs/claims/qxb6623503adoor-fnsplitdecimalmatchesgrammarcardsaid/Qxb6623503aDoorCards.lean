/-
  DERIVED. GIVEN WITH THE SEED: THE CARDS: each row of Qxb6623503aDoorRows.lean that lists a variable, with what it lists TIED to the program's text (the seventh form; the later family's looks); each row that meets fmt, with fmt's text TOLD by the authors' own Lean function (tested against real Go, not proved from fmt's source: count such statements apart). THE CARD IS WHAT COUNTS. Prove the row's statement (the work); the ties are given (Qxb6623503aDoorTie.lean); close each card by the builder's one call (the guide's Derived/Test/ToyasCard.lean, 'card_holds'). Laid BY PROGRAM, IN A SANDBOX (cutbox-door.mjs). By AI agents, Wed Nov 11 2026. No macro, syntax, notation, axiom, sorry.
-/
import Derived.Test.Qxb6623503aDoorRows
import GoSem.ClaimSeven
namespace Go.Proofs.Qxb6623503aDoor
namespace Rows

/-- THE TIED CARD OF 'zzlaws_internal_bson_b1.FnSplitDecimalMatchesGrammar'. -/
def fnSplitDecimalMatchesGrammarCard : Claim7 := { stood := { row := fnSplitDecimalMatchesGrammarRow, standIns := [], harness := (true, "71fccc14613e174046cdaa71262d65dc9ff1a9dbe42579be5045492236c8215b"), looks := true }, kinds := [], alts := [], laidByText := true, laidKinds := [.data, .data, .data, .sentinel, .sentinel], laidTests := true, laidLooks := .later }
def FnSplitDecimalMatchesGrammarCardSaid : Prop := Claim7.holds Tryd.pinned (.plain (OpenSpec.ofChange fnSplitDecimalMatchesGrammarSpec)) fnSplitDecimalMatchesGrammarCard
end Rows
end Go.Proofs.Qxb6623503aDoor
