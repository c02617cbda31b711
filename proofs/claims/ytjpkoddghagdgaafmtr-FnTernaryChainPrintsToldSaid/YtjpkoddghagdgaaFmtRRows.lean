/-
  No cell of these rows narrows 'for every input' (looked for: loops, veiled, ifaces, maps, wideKeys, modest, calm, conditions, laid).
  DERIVED. THE GIVEN ROWS OF THIS SEAT. 9 by the template 'for every input the law returns true; each argument reads behind the call as it read before'; 0 by the template 'total and deterministic' (their statements: YtjpkoddghagdgaaFmtRTotals.lean).
  GIVEN WITH THE SEED: the statements are not yours to turn. If you find one false, say at which input.
  Laid BY PROGRAM, IN A SANDBOX (cutbox-rows.mjs): the forced cells as the released guide's own fill.sh prints them over the translation b63cd3304fa4f372… (all of the seat's roots in one cut). By AI agents, Wed Nov 11 2026. No macro, syntax, notation, axiom, sorry.
-/
import Derived.Test.YtjpkoddghagdgaaFmtRChecked
import GoSem.Claim
import GoSem.ClaimJoined
import GoSem.ClaimMapViews
import Derived.JoinedTies
import Derived.KernelRfl
namespace Go.Proofs.YtjpkoddghagdgaaFmtR
/- THE CELL 'sum', in the pinned program and in every row, IS THE sha256 OF THE DUMP (.gsa) THAT YtjpkoddghagdgaaFmtRProg.lean LOADS. Nothing in Lean hashes anything: it is a label: what it is worth is what the hold of that sum in a sandbox is worth. -/
noncomputable def Tryf.pinned : Pinned := { name := "ytjpkoddghagdgaafmtr", sum := "b63cd3304fa4f3722371a0193fa1c9121653ef9e545ac2e5baca3d06530fbf4b", checked := Tryf.checked }
namespace Rows
def none {H : Type} : Left H := { results := [], args := [] }

/-- 'n003_77.FnPointerStringIsHashName': WHATEVER THE INPUT: true; the input reads as it did. -/
def fnPointerStringIsHashNameSpec : ChangeSpec := { name := "fnPointerStringIsHashName", fn := fun _ => fun
  | [d] => { results := [.lit (.bool true)], args := [d] }
  | _ => none }
def fnPointerStringIsHashNameRow : OpenClaim := { program := "ytjpkoddghagdgaafmtr", sum := "b63cd3304fa4f3722371a0193fa1c9121653ef9e545ac2e5baca3d06530fbf4b", func := "github.com/expr-lang/expr/n003_77.FnPointerStringIsHashName", spec := "fnPointerStringIsHashName", stops := ["fmt.Sprintf"], inPlace := ["fmt.Sprintf"], make := .lifted ["reflectrows", "leanrows"], apart := false }
/-- NO THEOREM (fmt's text is open here; it may be false): for the released tool's asking of the row's closed facts alone. THE STATEMENT IS 'FnPointerStringIsHashNameToldSaid' (YtjpkoddghagdgaaFmtRCards.lean). -/
def FnPointerStringIsHashNameFormAsk : Prop := fnPointerStringIsHashNameRow.holds Tryf.pinned (OpenSpec.ofChange fnPointerStringIsHashNameSpec)

/-- ITS FALSE NEIGHBOUR: 'it returns false'. Refute it at one input. -/
def fnPointerStringIsHashNameWrong : ChangeSpec := { name := "fnPointerStringIsHashName", fn := fun _ => fun
  | [d] => { results := [.lit (.bool false)], args := [d] }
  | _ => none }
def FnPointerStringIsHashNameWrongFormAsk : Prop := fnPointerStringIsHashNameRow.holds Tryf.pinned (OpenSpec.ofChange fnPointerStringIsHashNameWrong)

/-- 'n003_77.FnPointerStringInjective': WHATEVER THE INPUT: true; the input reads as it did. -/
def fnPointerStringInjectiveSpec : ChangeSpec := { name := "fnPointerStringInjective", fn := fun _ => fun
  | [d1, d2] => { results := [.lit (.bool true)], args := [d1, d2] }
  | _ => none }
def fnPointerStringInjectiveRow : OpenClaim := { program := "ytjpkoddghagdgaafmtr", sum := "b63cd3304fa4f3722371a0193fa1c9121653ef9e545ac2e5baca3d06530fbf4b", func := "github.com/expr-lang/expr/n003_77.FnPointerStringInjective", spec := "fnPointerStringInjective", stops := ["fmt.Sprintf"], inPlace := ["fmt.Sprintf"], make := .lifted ["reflectrows", "leanrows"], apart := false }
/-- NO THEOREM (fmt's text is open here; it may be false): for the released tool's asking of the row's closed facts alone. THE STATEMENT IS 'FnPointerStringInjectiveToldSaid' (YtjpkoddghagdgaaFmtRCards.lean). -/
def FnPointerStringInjectiveFormAsk : Prop := fnPointerStringInjectiveRow.holds Tryf.pinned (OpenSpec.ofChange fnPointerStringInjectiveSpec)

/-- ITS FALSE NEIGHBOUR: 'it returns false'. Refute it at one input. -/
def fnPointerStringInjectiveWrong : ChangeSpec := { name := "fnPointerStringInjective", fn := fun _ => fun
  | [d1, d2] => { results := [.lit (.bool false)], args := [d1, d2] }
  | _ => none }
def FnPointerStringInjectiveWrongFormAsk : Prop := fnPointerStringInjectiveRow.holds Tryf.pinned (OpenSpec.ofChange fnPointerStringInjectiveWrong)

/-- 'n003_62.FnStringNodeStringASCIIExact': WHATEVER THE INPUT: true; the input reads as it did. -/
def fnStringNodeStringASCIIExactSpec : ChangeSpec := { name := "fnStringNodeStringASCIIExact", fn := fun _ => fun
  | [d] => { results := [.lit (.bool true)], args := [d] }
  | _ => none }
def fnStringNodeStringASCIIExactRow : OpenClaim := { program := "ytjpkoddghagdgaafmtr", sum := "b63cd3304fa4f3722371a0193fa1c9121653ef9e545ac2e5baca3d06530fbf4b", func := "github.com/expr-lang/expr/n003_62.FnStringNodeStringASCIIExact", spec := "fnStringNodeStringASCIIExact", stops := ["fmt.Sprintf"], inPlace := ["fmt.Sprintf"], make := .lifted ["reflectrows", "leanrows"], apart := false }
/-- NO THEOREM (fmt's text is open here; it may be false): for the released tool's asking of the row's closed facts alone. THE STATEMENT IS 'FnStringNodeStringASCIIExactToldSaid' (YtjpkoddghagdgaaFmtRCards.lean). -/
def FnStringNodeStringASCIIExactFormAsk : Prop := fnStringNodeStringASCIIExactRow.holds Tryf.pinned (OpenSpec.ofChange fnStringNodeStringASCIIExactSpec)

/-- ITS FALSE NEIGHBOUR: 'it returns false'. Refute it at one input. -/
def fnStringNodeStringASCIIExactWrong : ChangeSpec := { name := "fnStringNodeStringASCIIExact", fn := fun _ => fun
  | [d] => { results := [.lit (.bool false)], args := [d] }
  | _ => none }
def FnStringNodeStringASCIIExactWrongFormAsk : Prop := fnStringNodeStringASCIIExactRow.holds Tryf.pinned (OpenSpec.ofChange fnStringNodeStringASCIIExactWrong)

/-- 'n003_33.FnPredicateInBuiltinExact': WHATEVER THE INPUT: true; the input reads as it did. -/
def fnPredicateInBuiltinExactSpec : ChangeSpec := { name := "fnPredicateInBuiltinExact", fn := fun _ => fun
  | [d1, d2, d3, d4] => { results := [.lit (.bool true)], args := [d1, d2, d3, d4] }
  | _ => none }
def fnPredicateInBuiltinExactRow : OpenClaim := { program := "ytjpkoddghagdgaafmtr", sum := "b63cd3304fa4f3722371a0193fa1c9121653ef9e545ac2e5baca3d06530fbf4b", func := "github.com/expr-lang/expr/n003_33.FnPredicateInBuiltinExact", spec := "fnPredicateInBuiltinExact", stops := ["fmt.Sprintf"], inPlace := ["internal/abi.NoEscape", "internal/bytealg.MakeNoZero", "fmt.Sprintf"], unfollowed := true, recurses := true, make := .lifted ["reflectrows", "leanrows"], apart := false }
/-- NO THEOREM (fmt's text is open here; it may be false): for the released tool's asking of the row's closed facts alone. THE STATEMENT IS 'FnPredicateInBuiltinExactToldSaid' (YtjpkoddghagdgaaFmtRCards.lean). -/
def FnPredicateInBuiltinExactFormAsk : Prop := fnPredicateInBuiltinExactRow.holds Tryf.pinned (OpenSpec.ofChange fnPredicateInBuiltinExactSpec)

/-- ITS FALSE NEIGHBOUR: 'it returns false'. Refute it at one input. -/
def fnPredicateInBuiltinExactWrong : ChangeSpec := { name := "fnPredicateInBuiltinExact", fn := fun _ => fun
  | [d1, d2, d3, d4] => { results := [.lit (.bool false)], args := [d1, d2, d3, d4] }
  | _ => none }
def FnPredicateInBuiltinExactWrongFormAsk : Prop := fnPredicateInBuiltinExactRow.holds Tryf.pinned (OpenSpec.ofChange fnPredicateInBuiltinExactWrong)

/-- 'n003_33.FnPredicateNestingTransparent': WHATEVER THE INPUT: true; the input reads as it did. -/
def fnPredicateNestingTransparentSpec : ChangeSpec := { name := "fnPredicateNestingTransparent", fn := fun _ => fun
  | [d1, d2, d3] => { results := [.lit (.bool true)], args := [d1, d2, d3] }
  | _ => none }
def fnPredicateNestingTransparentRow : OpenClaim := { program := "ytjpkoddghagdgaafmtr", sum := "b63cd3304fa4f3722371a0193fa1c9121653ef9e545ac2e5baca3d06530fbf4b", func := "github.com/expr-lang/expr/n003_33.FnPredicateNestingTransparent", spec := "fnPredicateNestingTransparent", stops := ["fmt.Sprintf"], unfollowed := true, recurses := true, make := .lifted ["reflectrows", "leanrows"], apart := false }
/-- NO THEOREM (fmt's text is open here; it may be false): for the released tool's asking of the row's closed facts alone. THE STATEMENT IS 'FnPredicateNestingTransparentToldSaid' (YtjpkoddghagdgaaFmtRCards.lean). -/
def FnPredicateNestingTransparentFormAsk : Prop := fnPredicateNestingTransparentRow.holds Tryf.pinned (OpenSpec.ofChange fnPredicateNestingTransparentSpec)

/-- ITS FALSE NEIGHBOUR: 'it returns false'. Refute it at one input. -/
def fnPredicateNestingTransparentWrong : ChangeSpec := { name := "fnPredicateNestingTransparent", fn := fun _ => fun
  | [d1, d2, d3] => { results := [.lit (.bool false)], args := [d1, d2, d3] }
  | _ => none }
def FnPredicateNestingTransparentWrongFormAsk : Prop := fnPredicateNestingTransparentRow.holds Tryf.pinned (OpenSpec.ofChange fnPredicateNestingTransparentWrong)

/-- 'n003_33.FnSliceStringExact': WHATEVER THE INPUT: true; the input reads as it did. -/
def fnSliceStringExactSpec : ChangeSpec := { name := "fnSliceStringExact", fn := fun _ => fun
  | [d1, d2, d3, d4, d5] => { results := [.lit (.bool true)], args := [d1, d2, d3, d4, d5] }
  | _ => none }
def fnSliceStringExactRow : OpenClaim := { program := "ytjpkoddghagdgaafmtr", sum := "b63cd3304fa4f3722371a0193fa1c9121653ef9e545ac2e5baca3d06530fbf4b", func := "github.com/expr-lang/expr/n003_33.FnSliceStringExact", spec := "fnSliceStringExact", stops := ["fmt.Sprintf"], inPlace := ["fmt.Sprintf"], unfollowed := true, recurses := true, make := .lifted ["reflectrows", "leanrows"], apart := false }
/-- NO THEOREM (fmt's text is open here; it may be false): for the released tool's asking of the row's closed facts alone. THE STATEMENT IS 'FnSliceStringExactToldSaid' (YtjpkoddghagdgaaFmtRCards.lean). -/
def FnSliceStringExactFormAsk : Prop := fnSliceStringExactRow.holds Tryf.pinned (OpenSpec.ofChange fnSliceStringExactSpec)

/-- ITS FALSE NEIGHBOUR: 'it returns false'. Refute it at one input. -/
def fnSliceStringExactWrong : ChangeSpec := { name := "fnSliceStringExact", fn := fun _ => fun
  | [d1, d2, d3, d4, d5] => { results := [.lit (.bool false)], args := [d1, d2, d3, d4, d5] }
  | _ => none }
def FnSliceStringExactWrongFormAsk : Prop := fnSliceStringExactRow.holds Tryf.pinned (OpenSpec.ofChange fnSliceStringExactWrong)

/-- 'n003_77.FnTernaryChainPrints': WHATEVER THE INPUT: true; the input reads as it did. -/
def fnTernaryChainPrintsSpec : ChangeSpec := { name := "fnTernaryChainPrints", fn := fun _ => fun
  | [d1, d2, d3] => { results := [.lit (.bool true)], args := [d1, d2, d3] }
  | _ => none }
def fnTernaryChainPrintsRow : OpenClaim := { program := "ytjpkoddghagdgaafmtr", sum := "b63cd3304fa4f3722371a0193fa1c9121653ef9e545ac2e5baca3d06530fbf4b", func := "github.com/expr-lang/expr/n003_77.FnTernaryChainPrints", spec := "fnTernaryChainPrints", stops := ["fmt.Sprintf"], unfollowed := true, recurses := true, make := .lifted ["reflectrows", "leanrows"], apart := false }
/-- NO THEOREM (fmt's text is open here; it may be false): for the released tool's asking of the row's closed facts alone. THE STATEMENT IS 'FnTernaryChainPrintsToldSaid' (YtjpkoddghagdgaaFmtRCards.lean). -/
def FnTernaryChainPrintsFormAsk : Prop := fnTernaryChainPrintsRow.holds Tryf.pinned (OpenSpec.ofChange fnTernaryChainPrintsSpec)

/-- ITS FALSE NEIGHBOUR: 'it returns false'. Refute it at one input. -/
def fnTernaryChainPrintsWrong : ChangeSpec := { name := "fnTernaryChainPrints", fn := fun _ => fun
  | [d1, d2, d3] => { results := [.lit (.bool false)], args := [d1, d2, d3] }
  | _ => none }
def FnTernaryChainPrintsWrongFormAsk : Prop := fnTernaryChainPrintsRow.holds Tryf.pinned (OpenSpec.ofChange fnTernaryChainPrintsWrong)

/-- 'n003_62.FnStringNodeStringIsOneQuotedToken': WHATEVER THE INPUT: true; the input reads as it did. -/
def fnStringNodeStringIsOneQuotedTokenSpec : ChangeSpec := { name := "fnStringNodeStringIsOneQuotedToken", fn := fun _ => fun
  | [d] => { results := [.lit (.bool true)], args := [d] }
  | _ => none }
def fnStringNodeStringIsOneQuotedTokenRow : OpenClaim := { program := "ytjpkoddghagdgaafmtr", sum := "b63cd3304fa4f3722371a0193fa1c9121653ef9e545ac2e5baca3d06530fbf4b", func := "github.com/expr-lang/expr/n003_62.FnStringNodeStringIsOneQuotedToken", spec := "fnStringNodeStringIsOneQuotedToken", stops := ["fmt.Sprintf"], inPlace := ["fmt.Sprintf"], make := .lifted ["reflectrows", "leanrows"], apart := false }
/-- NO THEOREM (fmt's text is open here; it may be false): for the released tool's asking of the row's closed facts alone. THE STATEMENT IS 'FnStringNodeStringIsOneQuotedTokenToldSaid' (YtjpkoddghagdgaaFmtRCards.lean). -/
def FnStringNodeStringIsOneQuotedTokenFormAsk : Prop := fnStringNodeStringIsOneQuotedTokenRow.holds Tryf.pinned (OpenSpec.ofChange fnStringNodeStringIsOneQuotedTokenSpec)

/-- ITS FALSE NEIGHBOUR: 'it returns false'. Refute it at one input. -/
def fnStringNodeStringIsOneQuotedTokenWrong : ChangeSpec := { name := "fnStringNodeStringIsOneQuotedToken", fn := fun _ => fun
  | [d] => { results := [.lit (.bool false)], args := [d] }
  | _ => none }
def FnStringNodeStringIsOneQuotedTokenWrongFormAsk : Prop := fnStringNodeStringIsOneQuotedTokenRow.holds Tryf.pinned (OpenSpec.ofChange fnStringNodeStringIsOneQuotedTokenWrong)

/-- 'n003_33.FnSliceStringRoundTrip': WHATEVER THE INPUT: true; the input reads as it did. -/
def fnSliceStringRoundTripSpec : ChangeSpec := { name := "fnSliceStringRoundTrip", fn := fun _ => fun
  | [d1, d2, d3, d4, d5] => { results := [.lit (.bool true)], args := [d1, d2, d3, d4, d5] }
  | _ => none }
def fnSliceStringRoundTripRow : OpenClaim := { program := "ytjpkoddghagdgaafmtr", sum := "b63cd3304fa4f3722371a0193fa1c9121653ef9e545ac2e5baca3d06530fbf4b", func := "github.com/expr-lang/expr/n003_33.FnSliceStringRoundTrip", spec := "fnSliceStringRoundTrip", stops := ["fmt.Sprintf"], inPlace := ["fmt.Sprintf"], unfollowed := true, recurses := true, make := .lifted ["reflectrows", "leanrows"], apart := false }
/-- NO THEOREM (fmt's text is open here; it may be false): for the released tool's asking of the row's closed facts alone. THE STATEMENT IS 'FnSliceStringRoundTripToldSaid' (YtjpkoddghagdgaaFmtRCards.lean). -/
def FnSliceStringRoundTripFormAsk : Prop := fnSliceStringRoundTripRow.holds Tryf.pinned (OpenSpec.ofChange fnSliceStringRoundTripSpec)

/-- ITS FALSE NEIGHBOUR: 'it returns false'. Refute it at one input. -/
def fnSliceStringRoundTripWrong : ChangeSpec := { name := "fnSliceStringRoundTrip", fn := fun _ => fun
  | [d1, d2, d3, d4, d5] => { results := [.lit (.bool false)], args := [d1, d2, d3, d4, d5] }
  | _ => none }
def FnSliceStringRoundTripWrongFormAsk : Prop := fnSliceStringRoundTripRow.holds Tryf.pinned (OpenSpec.ofChange fnSliceStringRoundTripWrong)

end Rows
end Go.Proofs.YtjpkoddghagdgaaFmtR
