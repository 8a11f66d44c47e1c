/-
  No cell of these rows narrows 'for every input' (looked for: loops, veiled, ifaces, maps, wideKeys, modest, calm, conditions, laid).
  DERIVED. THE GIVEN ROWS OF THIS SEAT. 1 by the template 'for every input the law returns true; each argument reads behind the call as it read before'; 0 by the template 'total and deterministic' (their statements: YbulkdxbkTotals.lean).
  GIVEN WITH THE SEED: the statements are not yours to turn. If you find one false, say at which input.
  Laid BY PROGRAM, IN A SANDBOX (cutbox-rows.mjs): the forced cells as the released guide's own fill.sh prints them over the translation 76d0ea264b5e1c29… (all of the seat's roots in one cut). By AI agents, Wed Nov 11 2026. No macro, syntax, notation, axiom, sorry.
-/
import Derived.Test.YbulkdxbkChecked
import GoSem.Claim
import GoSem.ClaimJoined
import GoSem.ClaimMapViews
import Derived.JoinedTies
import Derived.KernelRfl
namespace Go.Proofs.Ybulkdxbk
/- THE CELL 'sum', in the pinned program and in every row, IS THE sha256 OF THE DUMP (.gsa) THAT YbulkdxbkProg.lean LOADS. Nothing in Lean hashes anything: it is a label: what it is worth is what the hold of that sum in a sandbox is worth. -/
noncomputable def Yba.pinned : Pinned := { name := "ybulkdxbk", sum := "76d0ea264b5e1c2918a91b4b427a54061a900538c2706be11eaef3b812883dd2", checked := Yba.checked }
namespace Rows
def none {H : Type} : Left H := { results := [], args := [] }

/-- 'nullmove.LawS6185BWhole': WHATEVER THE INPUT: true; the input reads as it did. -/
def lawS6185BWholeSpec : ChangeSpec := { name := "lawS6185BWhole", fn := fun _ => fun
  | [d1, d2, d3, d4, d5, d6, d7, d8, d9] => { results := [.lit (.bool true)], args := [d1, d2, d3, d4, d5, d6, d7, d8, d9] }
  | _ => none }
def lawS6185BWholeRow : OpenClaim := { program := "ybulkdxbk", sum := "76d0ea264b5e1c2918a91b4b427a54061a900538c2706be11eaef3b812883dd2", func := "example.com/nullmove/nullmove.LawS6185BWhole", spec := "lawS6185BWhole", unfollowed := true, recurses := true, apart := false }
def LawS6185BWholeSaid : Prop := lawS6185BWholeRow.holds Yba.pinned (OpenSpec.ofChange lawS6185BWholeSpec)

/-- ITS FALSE NEIGHBOUR: 'it returns false'. Refute it at one input. -/
def lawS6185BWholeWrong : ChangeSpec := { name := "lawS6185BWhole", fn := fun _ => fun
  | [d1, d2, d3, d4, d5, d6, d7, d8, d9] => { results := [.lit (.bool false)], args := [d1, d2, d3, d4, d5, d6, d7, d8, d9] }
  | _ => none }
def LawS6185BWholeWrongFalsely : Prop := lawS6185BWholeRow.holds Yba.pinned (OpenSpec.ofChange lawS6185BWholeWrong)

end Rows
end Go.Proofs.Ybulkdxbk
