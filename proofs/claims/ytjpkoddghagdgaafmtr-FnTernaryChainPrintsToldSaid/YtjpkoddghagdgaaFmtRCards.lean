/-
  DERIVED. GIVEN WITH THE SEED: THE CARDS: each row of YtjpkoddghagdgaaFmtRRows.lean that lists a variable, with what it lists TIED to the program's text (the seventh form; the later family's looks); each row that meets fmt, with fmt's text TOLD by the authors' own Lean function (tested against real Go, not proved from fmt's source: count such statements apart). THE CARD IS WHAT COUNTS. Prove the row's statement (the work); the ties are given (YtjpkoddghagdgaaFmtRTie.lean); close each card by the builder's one call (the guide's Derived/Test/ToyasCard.lean, 'card_holds'). Laid BY PROGRAM, IN A SANDBOX (cutbox-door.mjs). By AI agents, Wed Nov 11 2026. No macro, syntax, notation, axiom, sorry.
-/
import Derived.Test.YtjpkoddghagdgaaFmtRRows
import GoSem.ClaimSeven
namespace Go.Proofs.YtjpkoddghagdgaaFmtR
namespace Rows

/-- THE TOLD CARD OF 'n003_77.FnPointerStringIsHashName'. -/
def fnPointerStringIsHashNameCard : Claim7 := { stood := { row := fnPointerStringIsHashNameRow, standIns := [], harness := (true, "a47bb13db4ba7a63e4a92ce68e710b6b5755cfb9361abd2cdaac16bfe409dbf7"), looks := true }, told := true, goes := false }
def FnPointerStringIsHashNameToldSaid : Prop := Claim7.holds Tryf.pinned (.plain (OpenSpec.ofChange fnPointerStringIsHashNameSpec)) fnPointerStringIsHashNameCard
/-- ITS FALSE NEIGHBOUR. Refute it at one input. -/
def FnPointerStringIsHashNameToldWrongFalsely : Prop := Claim7.holds Tryf.pinned (.plain (OpenSpec.ofChange fnPointerStringIsHashNameWrong)) fnPointerStringIsHashNameCard

/-- THE TOLD CARD OF 'n003_77.FnPointerStringInjective'. -/
def fnPointerStringInjectiveCard : Claim7 := { stood := { row := fnPointerStringInjectiveRow, standIns := [], harness := (true, "a47bb13db4ba7a63e4a92ce68e710b6b5755cfb9361abd2cdaac16bfe409dbf7"), looks := true }, told := true, goes := false }
def FnPointerStringInjectiveToldSaid : Prop := Claim7.holds Tryf.pinned (.plain (OpenSpec.ofChange fnPointerStringInjectiveSpec)) fnPointerStringInjectiveCard
/-- ITS FALSE NEIGHBOUR. Refute it at one input. -/
def FnPointerStringInjectiveToldWrongFalsely : Prop := Claim7.holds Tryf.pinned (.plain (OpenSpec.ofChange fnPointerStringInjectiveWrong)) fnPointerStringInjectiveCard

/-- THE TOLD CARD OF 'n003_62.FnStringNodeStringASCIIExact'. -/
def fnStringNodeStringASCIIExactCard : Claim7 := { stood := { row := fnStringNodeStringASCIIExactRow, standIns := [], harness := (true, "a47bb13db4ba7a63e4a92ce68e710b6b5755cfb9361abd2cdaac16bfe409dbf7"), looks := true }, told := true, goes := false }
def FnStringNodeStringASCIIExactToldSaid : Prop := Claim7.holds Tryf.pinned (.plain (OpenSpec.ofChange fnStringNodeStringASCIIExactSpec)) fnStringNodeStringASCIIExactCard
/-- ITS FALSE NEIGHBOUR. Refute it at one input. -/
def FnStringNodeStringASCIIExactToldWrongFalsely : Prop := Claim7.holds Tryf.pinned (.plain (OpenSpec.ofChange fnStringNodeStringASCIIExactWrong)) fnStringNodeStringASCIIExactCard

/-- THE TOLD CARD OF 'n003_33.FnPredicateInBuiltinExact'. -/
def fnPredicateInBuiltinExactCard : Claim7 := { stood := { row := fnPredicateInBuiltinExactRow, standIns := [], harness := (true, "a47bb13db4ba7a63e4a92ce68e710b6b5755cfb9361abd2cdaac16bfe409dbf7"), looks := true }, told := true, goes := false }
def FnPredicateInBuiltinExactToldSaid : Prop := Claim7.holds Tryf.pinned (.plain (OpenSpec.ofChange fnPredicateInBuiltinExactSpec)) fnPredicateInBuiltinExactCard
/-- ITS FALSE NEIGHBOUR. Refute it at one input. -/
def FnPredicateInBuiltinExactToldWrongFalsely : Prop := Claim7.holds Tryf.pinned (.plain (OpenSpec.ofChange fnPredicateInBuiltinExactWrong)) fnPredicateInBuiltinExactCard

/-- THE TOLD CARD OF 'n003_33.FnPredicateNestingTransparent'. -/
def fnPredicateNestingTransparentCard : Claim7 := { stood := { row := fnPredicateNestingTransparentRow, standIns := [], harness := (true, "a47bb13db4ba7a63e4a92ce68e710b6b5755cfb9361abd2cdaac16bfe409dbf7"), looks := true }, told := true, goes := false }
def FnPredicateNestingTransparentToldSaid : Prop := Claim7.holds Tryf.pinned (.plain (OpenSpec.ofChange fnPredicateNestingTransparentSpec)) fnPredicateNestingTransparentCard
/-- ITS FALSE NEIGHBOUR. Refute it at one input. -/
def FnPredicateNestingTransparentToldWrongFalsely : Prop := Claim7.holds Tryf.pinned (.plain (OpenSpec.ofChange fnPredicateNestingTransparentWrong)) fnPredicateNestingTransparentCard

/-- THE TOLD CARD OF 'n003_33.FnSliceStringExact'. -/
def fnSliceStringExactCard : Claim7 := { stood := { row := fnSliceStringExactRow, standIns := [], harness := (true, "a47bb13db4ba7a63e4a92ce68e710b6b5755cfb9361abd2cdaac16bfe409dbf7"), looks := true }, told := true, goes := false }
def FnSliceStringExactToldSaid : Prop := Claim7.holds Tryf.pinned (.plain (OpenSpec.ofChange fnSliceStringExactSpec)) fnSliceStringExactCard
/-- ITS FALSE NEIGHBOUR. Refute it at one input. -/
def FnSliceStringExactToldWrongFalsely : Prop := Claim7.holds Tryf.pinned (.plain (OpenSpec.ofChange fnSliceStringExactWrong)) fnSliceStringExactCard

/-- THE TOLD CARD OF 'n003_77.FnTernaryChainPrints'. -/
def fnTernaryChainPrintsCard : Claim7 := { stood := { row := fnTernaryChainPrintsRow, standIns := [], harness := (true, "a47bb13db4ba7a63e4a92ce68e710b6b5755cfb9361abd2cdaac16bfe409dbf7"), looks := true }, told := true, goes := false }
def FnTernaryChainPrintsToldSaid : Prop := Claim7.holds Tryf.pinned (.plain (OpenSpec.ofChange fnTernaryChainPrintsSpec)) fnTernaryChainPrintsCard
/-- ITS FALSE NEIGHBOUR. Refute it at one input. -/
def FnTernaryChainPrintsToldWrongFalsely : Prop := Claim7.holds Tryf.pinned (.plain (OpenSpec.ofChange fnTernaryChainPrintsWrong)) fnTernaryChainPrintsCard

/-- THE TOLD CARD OF 'n003_62.FnStringNodeStringIsOneQuotedToken'. -/
def fnStringNodeStringIsOneQuotedTokenCard : Claim7 := { stood := { row := fnStringNodeStringIsOneQuotedTokenRow, standIns := [], harness := (true, "a47bb13db4ba7a63e4a92ce68e710b6b5755cfb9361abd2cdaac16bfe409dbf7"), looks := true }, told := true, goes := false }
def FnStringNodeStringIsOneQuotedTokenToldSaid : Prop := Claim7.holds Tryf.pinned (.plain (OpenSpec.ofChange fnStringNodeStringIsOneQuotedTokenSpec)) fnStringNodeStringIsOneQuotedTokenCard
/-- ITS FALSE NEIGHBOUR. Refute it at one input. -/
def FnStringNodeStringIsOneQuotedTokenToldWrongFalsely : Prop := Claim7.holds Tryf.pinned (.plain (OpenSpec.ofChange fnStringNodeStringIsOneQuotedTokenWrong)) fnStringNodeStringIsOneQuotedTokenCard

/-- THE TOLD CARD OF 'n003_33.FnSliceStringRoundTrip'. -/
def fnSliceStringRoundTripCard : Claim7 := { stood := { row := fnSliceStringRoundTripRow, standIns := [], harness := (true, "a47bb13db4ba7a63e4a92ce68e710b6b5755cfb9361abd2cdaac16bfe409dbf7"), looks := true }, told := true, goes := false }
def FnSliceStringRoundTripToldSaid : Prop := Claim7.holds Tryf.pinned (.plain (OpenSpec.ofChange fnSliceStringRoundTripSpec)) fnSliceStringRoundTripCard
/-- ITS FALSE NEIGHBOUR. Refute it at one input. -/
def FnSliceStringRoundTripToldWrongFalsely : Prop := Claim7.holds Tryf.pinned (.plain (OpenSpec.ofChange fnSliceStringRoundTripWrong)) fnSliceStringRoundTripCard
end Rows
end Go.Proofs.YtjpkoddghagdgaaFmtR
