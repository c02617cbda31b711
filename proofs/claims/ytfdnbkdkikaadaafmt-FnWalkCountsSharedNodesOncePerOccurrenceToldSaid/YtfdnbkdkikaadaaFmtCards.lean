/-
  DERIVED. GIVEN WITH THE SEED: THE CARDS: each row of YtfdnbkdkikaadaaFmtRows.lean that lists a variable, with what it lists TIED to the program's text (the seventh form; the later family's looks); each row that meets fmt, with fmt's text TOLD by the authors' own Lean function (tested against real Go, not proved from fmt's source: count such statements apart). THE CARD IS WHAT COUNTS. Prove the row's statement (the work); the ties are given (YtfdnbkdkikaadaaFmtTie.lean); close each card by the builder's one call (the guide's Derived/Test/ToyasCard.lean, 'card_holds'). Laid BY PROGRAM, IN A SANDBOX (cutbox-door.mjs). By AI agents, Wed Nov 11 2026. No macro, syntax, notation, axiom, sorry.
-/
import Derived.Test.YtfdnbkdkikaadaaFmtRows
import GoSem.ClaimSeven
namespace Go.Proofs.YtfdnbkdkikaadaaFmt
namespace Rows

/-- THE TOLD CARD OF 'n003_70.FnWalkCountsSharedNodesOncePerOccurrence'. -/
def fnWalkCountsSharedNodesOncePerOccurrenceCard : Claim7 := { stood := { row := fnWalkCountsSharedNodesOncePerOccurrenceRow, standIns := [], harness := (true, "30edfdce8415939d9790793e948c78e0d7ce3b0e32d1794c8d6344a953004460"), looks := true }, told := true, goes := false }
def FnWalkCountsSharedNodesOncePerOccurrenceToldSaid : Prop := Claim7.holds Tryf.pinned (.plain (OpenSpec.ofChange fnWalkCountsSharedNodesOncePerOccurrenceSpec)) fnWalkCountsSharedNodesOncePerOccurrenceCard
/-- ITS FALSE NEIGHBOUR. Refute it at one input. -/
def FnWalkCountsSharedNodesOncePerOccurrenceToldWrongFalsely : Prop := Claim7.holds Tryf.pinned (.plain (OpenSpec.ofChange fnWalkCountsSharedNodesOncePerOccurrenceWrong)) fnWalkCountsSharedNodesOncePerOccurrenceCard
end Rows
end Go.Proofs.YtfdnbkdkikaadaaFmt
