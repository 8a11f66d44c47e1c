/-
  No cell of these rows narrows 'for every input' (looked for: loops, veiled, ifaces, maps, wideKeys, modest, calm, conditions, laid).
  DERIVED. THE GIVEN ROWS OF THIS SEAT. 1 by the template 'for every input the law returns true; each argument reads behind the call as it read before'; 0 by the template 'total and deterministic' (their statements: YbulkdxdaFmtTotals.lean).
  GIVEN WITH THE SEED: the statements are not yours to turn. If you find one false, say at which input.
  Laid BY PROGRAM, IN A SANDBOX (cutbox-rows.mjs): the forced cells as the released guide's own fill.sh prints them over the translation 256fc9be1d84fc70… (all of the seat's roots in one cut). By AI agents, Wed Nov 11 2026. No macro, syntax, notation, axiom, sorry.
-/
import Derived.Test.YbulkdxdaFmtChecked
import GoSem.Claim
import GoSem.ClaimJoined
import GoSem.ClaimMapViews
import Derived.JoinedTies
import Derived.KernelRfl
namespace Go.Proofs.YbulkdxdaFmt
/- THE CELL 'sum', in the pinned program and in every row, IS THE sha256 OF THE DUMP (.gsa) THAT YbulkdxdaFmtProg.lean LOADS. Nothing in Lean hashes anything: it is a label: what it is worth is what the hold of that sum in a sandbox is worth. -/
noncomputable def Ybaf.pinned : Pinned := { name := "ybulkdxdafmt", sum := "256fc9be1d84fc70afe47e72ac8201d19bfa24e0db4f3df870eb81d2c31f69d2", checked := Ybaf.checked }
namespace Rows
def none {H : Type} : Left H := { results := [], args := [] }

/-- 'spanloom.LawS6188AWhole': WHATEVER THE INPUT: true; the input reads as it did. -/
def lawS6188AWholeSpec : ChangeSpec := { name := "lawS6188AWhole", fn := fun _ => fun
  | [d1, d2] => { results := [.lit (.bool true)], args := [d1, d2] }
  | _ => none }
def lawS6188AWholeRow : OpenClaim := { program := "ybulkdxdafmt", sum := "256fc9be1d84fc70afe47e72ac8201d19bfa24e0db4f3df870eb81d2c31f69d2", func := "example.com/spanloom/spanloom.LawS6188AWhole", spec := "lawS6188AWhole", stops := ["fmt.errorf"], inPlace := ["fmt.errorf"], apart := false }
/-- NO THEOREM (fmt's text is open here; it may be false): for the released tool's asking of the row's closed facts alone. THE STATEMENT IS 'LawS6188AWholeToldSaid' (YbulkdxdaFmtCards.lean). -/
def LawS6188AWholeFormAsk : Prop := lawS6188AWholeRow.holds Ybaf.pinned (OpenSpec.ofChange lawS6188AWholeSpec)

/-- ITS FALSE NEIGHBOUR: 'it returns false'. Refute it at one input. -/
def lawS6188AWholeWrong : ChangeSpec := { name := "lawS6188AWhole", fn := fun _ => fun
  | [d1, d2] => { results := [.lit (.bool false)], args := [d1, d2] }
  | _ => none }
def LawS6188AWholeWrongFormAsk : Prop := lawS6188AWholeRow.holds Ybaf.pinned (OpenSpec.ofChange lawS6188AWholeWrong)

end Rows
end Go.Proofs.YbulkdxdaFmt
