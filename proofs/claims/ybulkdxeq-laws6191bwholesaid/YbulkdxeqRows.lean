/-
  No cell of these rows narrows 'for every input' (looked for: loops, veiled, ifaces, maps, wideKeys, modest, calm, conditions, laid).
  DERIVED. THE GIVEN ROWS OF THIS SEAT. 2 by the template 'for every input the law returns true; each argument reads behind the call as it read before'; 0 by the template 'total and deterministic' (their statements: YbulkdxeqTotals.lean).
  GIVEN WITH THE SEED: the statements are not yours to turn. If you find one false, say at which input.
  Laid BY PROGRAM, IN A SANDBOX (cutbox-rows.mjs): the forced cells as the released guide's own fill.sh prints them over the translation 6faf25d6c2039008… (all of the seat's roots in one cut). By AI agents, Wed Nov 11 2026. No macro, syntax, notation, axiom, sorry.
-/
import Derived.Test.YbulkdxeqChecked
import GoSem.Claim
import GoSem.ClaimJoined
import GoSem.ClaimMapViews
import Derived.JoinedTies
import Derived.KernelRfl
namespace Go.Proofs.Ybulkdxeq
/- THE CELL 'sum', in the pinned program and in every row, IS THE sha256 OF THE DUMP (.gsa) THAT YbulkdxeqProg.lean LOADS. Nothing in Lean hashes anything: it is a label: what it is worth is what the hold of that sum in a sandbox is worth. -/
noncomputable def Yba.pinned : Pinned := { name := "ybulkdxeq", sum := "6faf25d6c2039008ec308a3137edeed7104854f7ced03a1685b4a6b4abf1dff1", checked := Yba.checked }
namespace Rows
def none {H : Type} : Left H := { results := [], args := [] }

/-- 'mapstone.LawS6191BWhole': WHATEVER THE INPUT: true; the input reads as it did. -/
def lawS6191BWholeSpec : ChangeSpec := { name := "lawS6191BWhole", fn := fun _ => fun
  | [d1, d2, d3, d4, d5, d6, d7] => { results := [.lit (.bool true)], args := [d1, d2, d3, d4, d5, d6, d7] }
  | _ => none }
def lawS6191BWholeRow : OpenClaim := { program := "ybulkdxeq", sum := "6faf25d6c2039008ec308a3137edeed7104854f7ced03a1685b4a6b4abf1dff1", func := "example.com/mapstone/mapstone.LawS6191BWhole", spec := "lawS6191BWhole", inPlace := ["internal/bytealg.abigen_runtime_cmpstring", "internal/bytealg.Compare"], unfollowed := true, recurses := true, apart := false }
def LawS6191BWholeSaid : Prop := lawS6191BWholeRow.holds Yba.pinned (OpenSpec.ofChange lawS6191BWholeSpec)

/-- ITS FALSE NEIGHBOUR: 'it returns false'. Refute it at one input. -/
def lawS6191BWholeWrong : ChangeSpec := { name := "lawS6191BWhole", fn := fun _ => fun
  | [d1, d2, d3, d4, d5, d6, d7] => { results := [.lit (.bool false)], args := [d1, d2, d3, d4, d5, d6, d7] }
  | _ => none }
def LawS6191BWholeWrongFalsely : Prop := lawS6191BWholeRow.holds Yba.pinned (OpenSpec.ofChange lawS6191BWholeWrong)

/-- 'mapstone.LawS6191CWhole': WHATEVER THE INPUT: true; the input reads as it did. -/
def lawS6191CWholeSpec : ChangeSpec := { name := "lawS6191CWhole", fn := fun _ => fun
  | [d1, d2, d3, d4, d5] => { results := [.lit (.bool true)], args := [d1, d2, d3, d4, d5] }
  | _ => none }
def lawS6191CWholeRow : OpenClaim := { program := "ybulkdxeq", sum := "6faf25d6c2039008ec308a3137edeed7104854f7ced03a1685b4a6b4abf1dff1", func := "example.com/mapstone/mapstone.LawS6191CWhole", spec := "lawS6191CWhole", apart := false }
def LawS6191CWholeSaid : Prop := lawS6191CWholeRow.holds Yba.pinned (OpenSpec.ofChange lawS6191CWholeSpec)

/-- ITS FALSE NEIGHBOUR: 'it returns false'. Refute it at one input. -/
def lawS6191CWholeWrong : ChangeSpec := { name := "lawS6191CWhole", fn := fun _ => fun
  | [d1, d2, d3, d4, d5] => { results := [.lit (.bool false)], args := [d1, d2, d3, d4, d5] }
  | _ => none }
def LawS6191CWholeWrongFalsely : Prop := lawS6191CWholeRow.holds Yba.pinned (OpenSpec.ofChange lawS6191CWholeWrong)

end Rows
end Go.Proofs.Ybulkdxeq
