/-
  DERIVED. GIVEN WITH THE SEED: THE CARDS: each row of YbulkdxbkDoorRows.lean that lists a variable, with what it lists TIED to the program's text (the seventh form; the later family's looks); each row that meets fmt, with fmt's text TOLD by the authors' own Lean function (tested against real Go, not proved from fmt's source: count such statements apart). THE CARD IS WHAT COUNTS. Prove the row's statement (the work); the ties are given (YbulkdxbkDoorTie.lean); close each card by the builder's one call (the guide's Derived/Test/ToyasCard.lean, 'card_holds'). Laid BY PROGRAM, IN A SANDBOX (cutbox-door.mjs). By AI agents, Wed Nov 11 2026. No macro, syntax, notation, axiom, sorry.
-/
import Derived.Test.YbulkdxbkDoorRows
import GoSem.ClaimSeven
namespace Go.Proofs.YbulkdxbkDoor
namespace Rows

/-- THE TIED CARD OF 'nullmove.LawS6185AWhole'. -/
def lawS6185AWholeCard : Claim7 := { stood := { row := lawS6185AWholeRow, standIns := [], harness := (true, "10add70de24fb858b60d57536963fcc7a665ac35eea0fe5c26038052717fefae"), looks := false }, kinds := [], alts := [], laidByText := true, laidKinds := [.data, .data, .pinned], laidTests := true, laidLooks := .later }
def LawS6185AWholeCardSaid : Prop := Claim7.holds Ybad.pinned (.plain (OpenSpec.ofChange lawS6185AWholeSpec)) lawS6185AWholeCard

/-- THE TIED CARD OF 'nullmove.LawS6185CWhole'. -/
def lawS6185CWholeCard : Claim7 := { stood := { row := lawS6185CWholeRow, standIns := [], harness := (true, "10add70de24fb858b60d57536963fcc7a665ac35eea0fe5c26038052717fefae"), looks := false }, kinds := [], alts := [], laidByText := true, laidKinds := [.data], laidTests := true, laidLooks := .later }
def LawS6185CWholeCardSaid : Prop := Claim7.holds Ybad.pinned (.plain (OpenSpec.ofChange lawS6185CWholeSpec)) lawS6185CWholeCard
end Rows
end Go.Proofs.YbulkdxbkDoor
