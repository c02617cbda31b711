/-
  DERIVED. GIVEN WITH THE SEED: THE CARDS: each row of YtjdnfgpnfmgcmaaFmtRows.lean that lists a variable, with what it lists TIED to the program's text (the seventh form; the later family's looks); each row that meets fmt, with fmt's text TOLD by the authors' own Lean function (tested against real Go, not proved from fmt's source: count such statements apart). THE CARD IS WHAT COUNTS. Prove the row's statement (the work); the ties are given (YtjdnfgpnfmgcmaaFmtTie.lean); close each card by the builder's one call (the guide's Derived/Test/ToyasCard.lean, 'card_holds'). Laid BY PROGRAM, IN A SANDBOX (cutbox-door.mjs). By AI agents, Wed Nov 11 2026. No macro, syntax, notation, axiom, sorry.
-/
import Derived.Test.YtjdnfgpnfmgcmaaFmtRows
import GoSem.ClaimSeven
namespace Go.Proofs.YtjdnfgpnfmgcmaaFmt
namespace Rows

/-- THE TOLD CARD OF 'n003_78.FnSliceStringSplitsAtEveryCut'. -/
def fnSliceStringSplitsAtEveryCutCard : Claim7 := { stood := { row := fnSliceStringSplitsAtEveryCutRow, standIns := [], harness := (true, "7582a1969678836fd78ee3b8d009352013b76cc933ebe097b8dabf3a3c542944"), looks := true }, told := true, goes := false }
def FnSliceStringSplitsAtEveryCutToldSaid : Prop := Claim7.holds Tryf.pinned (.plain (OpenSpec.ofChange fnSliceStringSplitsAtEveryCutSpec)) fnSliceStringSplitsAtEveryCutCard
/-- ITS FALSE NEIGHBOUR. Refute it at one input. -/
def FnSliceStringSplitsAtEveryCutToldWrongFalsely : Prop := Claim7.holds Tryf.pinned (.plain (OpenSpec.ofChange fnSliceStringSplitsAtEveryCutWrong)) fnSliceStringSplitsAtEveryCutCard

/-- THE TOLD CARD OF 'n003_78.FnSliceIntsIsIndexFilter'. -/
def fnSliceIntsIsIndexFilterCard : Claim7 := { stood := { row := fnSliceIntsIsIndexFilterRow, standIns := [], harness := (true, "7582a1969678836fd78ee3b8d009352013b76cc933ebe097b8dabf3a3c542944"), looks := true }, told := true, goes := false }
def FnSliceIntsIsIndexFilterToldSaid : Prop := Claim7.holds Tryf.pinned (.plain (OpenSpec.ofChange fnSliceIntsIsIndexFilterSpec)) fnSliceIntsIsIndexFilterCard
/-- ITS FALSE NEIGHBOUR. Refute it at one input. -/
def FnSliceIntsIsIndexFilterToldWrongFalsely : Prop := Claim7.holds Tryf.pinned (.plain (OpenSpec.ofChange fnSliceIntsIsIndexFilterWrong)) fnSliceIntsIsIndexFilterCard
end Rows
end Go.Proofs.YtjdnfgpnfmgcmaaFmt
