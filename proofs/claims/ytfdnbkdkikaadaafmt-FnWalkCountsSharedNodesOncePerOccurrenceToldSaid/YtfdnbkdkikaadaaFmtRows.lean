/-
  No cell of these rows narrows 'for every input' (looked for: loops, veiled, ifaces, maps, wideKeys, modest, calm, conditions, laid).
  DERIVED. THE GIVEN ROWS OF THIS SEAT. 1 by the template 'for every input the law returns true; each argument reads behind the call as it read before'; 0 by the template 'total and deterministic' (their statements: YtfdnbkdkikaadaaFmtTotals.lean).
  GIVEN WITH THE SEED: the statements are not yours to turn. If you find one false, say at which input.
  Laid BY PROGRAM, IN A SANDBOX (cutbox-rows.mjs): the forced cells as the released guide's own fill.sh prints them over the translation 29a044a181638829… (all of the seat's roots in one cut). By AI agents, Wed Nov 11 2026. No macro, syntax, notation, axiom, sorry.
-/
import Derived.Test.YtfdnbkdkikaadaaFmtChecked
import GoSem.Claim
import GoSem.ClaimJoined
import GoSem.ClaimMapViews
import Derived.JoinedTies
import Derived.KernelRfl
namespace Go.Proofs.YtfdnbkdkikaadaaFmt
/- THE CELL 'sum', in the pinned program and in every row, IS THE sha256 OF THE DUMP (.gsa) THAT YtfdnbkdkikaadaaFmtProg.lean LOADS. Nothing in Lean hashes anything: it is a label: what it is worth is what the hold of that sum in a sandbox is worth. -/
noncomputable def Tryf.pinned : Pinned := { name := "ytfdnbkdkikaadaafmt", sum := "29a044a181638829195fcf8f1bc809aae966aca192ec3ee393c1f399411d4d68", checked := Tryf.checked }
namespace Rows
def none {H : Type} : Left H := { results := [], args := [] }

/-- 'n003_70.FnWalkCountsSharedNodesOncePerOccurrence': WHATEVER THE INPUT: true; the input reads as it did. -/
def fnWalkCountsSharedNodesOncePerOccurrenceSpec : ChangeSpec := { name := "fnWalkCountsSharedNodesOncePerOccurrence", fn := fun _ => fun
  | [d1, d2] => { results := [.lit (.bool true)], args := [d1, d2] }
  | _ => none }
def fnWalkCountsSharedNodesOncePerOccurrenceRow : OpenClaim := { program := "ytfdnbkdkikaadaafmt", sum := "29a044a181638829195fcf8f1bc809aae966aca192ec3ee393c1f399411d4d68", func := "github.com/expr-lang/expr/n003_70.FnWalkCountsSharedNodesOncePerOccurrence", spec := "fnWalkCountsSharedNodesOncePerOccurrence", stops := ["fmt.Sprintf"], inPlace := ["fmt.Sprintf"], unfollowed := true, recurses := true, make := .lifted ["reflectrows", "leanrows"], apart := false }
/-- NO THEOREM (fmt's text is open here; it may be false): for the released tool's asking of the row's closed facts alone. THE STATEMENT IS 'FnWalkCountsSharedNodesOncePerOccurrenceToldSaid' (YtfdnbkdkikaadaaFmtCards.lean). -/
def FnWalkCountsSharedNodesOncePerOccurrenceFormAsk : Prop := fnWalkCountsSharedNodesOncePerOccurrenceRow.holds Tryf.pinned (OpenSpec.ofChange fnWalkCountsSharedNodesOncePerOccurrenceSpec)

/-- ITS FALSE NEIGHBOUR: 'it returns false'. Refute it at one input. -/
def fnWalkCountsSharedNodesOncePerOccurrenceWrong : ChangeSpec := { name := "fnWalkCountsSharedNodesOncePerOccurrence", fn := fun _ => fun
  | [d1, d2] => { results := [.lit (.bool false)], args := [d1, d2] }
  | _ => none }
def FnWalkCountsSharedNodesOncePerOccurrenceWrongFormAsk : Prop := fnWalkCountsSharedNodesOncePerOccurrenceRow.holds Tryf.pinned (OpenSpec.ofChange fnWalkCountsSharedNodesOncePerOccurrenceWrong)

end Rows
end Go.Proofs.YtfdnbkdkikaadaaFmt
