/-
  DERIVED. GIVEN WITH THE SEED: THE CARDS: each row of YbulkdxdaFmtRows.lean that lists a variable, with what it lists TIED to the program's text (the seventh form; the later family's looks); each row that meets fmt, with fmt's text TOLD by the authors' own Lean function (tested against real Go, not proved from fmt's source: count such statements apart). THE CARD IS WHAT COUNTS. Prove the row's statement (the work); the ties are given (YbulkdxdaFmtTie.lean); close each card by the builder's one call (the guide's Derived/Test/ToyasCard.lean, 'card_holds'). Laid BY PROGRAM, IN A SANDBOX (cutbox-door.mjs). By AI agents, Wed Nov 11 2026. No macro, syntax, notation, axiom, sorry.
-/
import Derived.Test.YbulkdxdaFmtRows
import GoSem.ClaimSeven
namespace Go.Proofs.YbulkdxdaFmt
namespace Rows

/-- THE TOLD CARD OF 'spanloom.LawS6188AWhole'. -/
def lawS6188AWholeCard : Claim7 := { stood := { row := lawS6188AWholeRow, standIns := [], harness := (true, "139c1d92db4e51da12cffc88dc9443e17bac7759bd661dd4c3b6f3782d6d29c7"), looks := false }, told := true, goes := false }
def LawS6188AWholeToldSaid : Prop := Claim7.holds Ybaf.pinned (.plain (OpenSpec.ofChange lawS6188AWholeSpec)) lawS6188AWholeCard
/-- ITS FALSE NEIGHBOUR. Refute it at one input. -/
def LawS6188AWholeToldWrongFalsely : Prop := Claim7.holds Ybaf.pinned (.plain (OpenSpec.ofChange lawS6188AWholeWrong)) lawS6188AWholeCard
end Rows
end Go.Proofs.YbulkdxdaFmt
