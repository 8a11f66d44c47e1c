/-
  No cell of these rows narrows 'for every input' (looked for: loops, veiled, ifaces, maps, wideKeys, modest, calm, conditions, laid).
  DERIVED. THE GIVEN ROWS OF THIS SEAT. 1 by the template 'for every input the law returns true; each argument reads behind the call as it read before'; 0 by the template 'total and deterministic' (their statements: YbulkdxfsFmtTotals.lean).
  GIVEN WITH THE SEED: the statements are not yours to turn. If you find one false, say at which input.
  Laid BY PROGRAM, IN A SANDBOX (cutbox-rows.mjs): the forced cells as the released guide's own fill.sh prints them over the translation b72f42be2575b048… (all of the seat's roots in one cut). By AI agents, Wed Nov 11 2026. No macro, syntax, notation, axiom, sorry.
-/
import Derived.Test.YbulkdxfsFmtChecked
import GoSem.Claim
import GoSem.ClaimJoined
import GoSem.ClaimMapViews
import Derived.JoinedTies
import Derived.KernelRfl
namespace Go.Proofs.YbulkdxfsFmt
/- THE CELL 'sum', in the pinned program and in every row, IS THE sha256 OF THE DUMP (.gsa) THAT YbulkdxfsFmtProg.lean LOADS. Nothing in Lean hashes anything: it is a label: what it is worth is what the hold of that sum in a sandbox is worth. -/
noncomputable def Ybaf.pinned : Pinned := { name := "ybulkdxfsfmt", sum := "b72f42be2575b048975dfba407a082a27a7d70e8c7a84a6ffe20d8a343f1d290", checked := Ybaf.checked }
namespace Rows
def none {H : Type} : Left H := { results := [], args := [] }

/-- 'farm.LawS6193BScript': WHATEVER THE INPUT: true; the input reads as it did. -/
def lawS6193BScriptSpec : ChangeSpec := { name := "lawS6193BScript", fn := fun _ => fun
  | [d] => { results := [.lit (.bool true)], args := [d] }
  | _ => none }
def lawS6193BScriptRow : OpenClaim := { program := "ybulkdxfsfmt", sum := "b72f42be2575b048975dfba407a082a27a7d70e8c7a84a6ffe20d8a343f1d290", func := "example.com/tidemark/tidemark/farm.LawS6193BScript", spec := "lawS6193BScript", stops := ["fmt.errorf"], inPlace := ["(*internal/sync.Mutex).Lock", "internal/race.Disable", "sync/atomic.CompareAndSwapInt32", "internal/race.Enable", "internal/race.Acquire", "(*internal/sync.Mutex).lockSlow", "internal/sync.runtime_canSpin", "internal/sync.runtime_doSpin", "internal/sync.throw", "internal/sync.runtime_nanotime", "internal/sync.runtime_SemacquireMutex", "sync/atomic.AddInt32", "(*internal/sync.Mutex).Unlock", "internal/race.ReleaseMerge", "(*internal/sync.Mutex).unlockSlow", "internal/sync.fatal", "internal/sync.runtime_Semrelease", "fmt.errorf"], plainKeys := false, apart := false }
/-- NO THEOREM (fmt's text is open here; it may be false): for the released tool's asking of the row's closed facts alone. THE STATEMENT IS 'LawS6193BScriptToldSaid' (YbulkdxfsFmtCards.lean). -/
def LawS6193BScriptFormAsk : Prop := lawS6193BScriptRow.holds Ybaf.pinned (OpenSpec.ofChange lawS6193BScriptSpec)

/-- ITS FALSE NEIGHBOUR: 'it returns false'. Refute it at one input. -/
def lawS6193BScriptWrong : ChangeSpec := { name := "lawS6193BScript", fn := fun _ => fun
  | [d] => { results := [.lit (.bool false)], args := [d] }
  | _ => none }
def LawS6193BScriptWrongFormAsk : Prop := lawS6193BScriptRow.holds Ybaf.pinned (OpenSpec.ofChange lawS6193BScriptWrong)

end Rows
end Go.Proofs.YbulkdxfsFmt
