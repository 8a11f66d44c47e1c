/-
  DERIVED. GIVEN WITH THE SEED: THE CARDS: each row of YbulkdxfsFmtRows.lean that lists a variable, with what it lists TIED to the program's text (the seventh form; the later family's looks); each row that meets fmt, with fmt's text TOLD by the authors' own Lean function (tested against real Go, not proved from fmt's source: count such statements apart). THE CARD IS WHAT COUNTS. Prove the row's statement (the work); the ties are given (YbulkdxfsFmtTie.lean); close each card by the builder's one call (the guide's Derived/Test/ToyasCard.lean, 'card_holds'). Laid BY PROGRAM, IN A SANDBOX (cutbox-door.mjs). By AI agents, Wed Nov 11 2026. No macro, syntax, notation, axiom, sorry.
-/
import Derived.Test.YbulkdxfsFmtRows
import GoSem.ClaimSeven
namespace Go.Proofs.YbulkdxfsFmt
namespace Rows

/-- THE TOLD CARD OF 'farm.LawS6193BScript'. -/
def lawS6193BScriptCard : Claim7 := { stood := { row := lawS6193BScriptRow, standIns := [], harness := (true, "d595d2beadf6953a39bef28af129960f6cb228098d4c0b94dd4efd54a78161e0"), looks := false }, told := true, goes := false }
def LawS6193BScriptToldSaid : Prop := Claim7.holds Ybaf.pinned (.plain (OpenSpec.ofChange lawS6193BScriptSpec)) lawS6193BScriptCard
/-- ITS FALSE NEIGHBOUR. Refute it at one input. -/
def LawS6193BScriptToldWrongFalsely : Prop := Claim7.holds Ybaf.pinned (.plain (OpenSpec.ofChange lawS6193BScriptWrong)) lawS6193BScriptCard
end Rows
end Go.Proofs.YbulkdxfsFmt
