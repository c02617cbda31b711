/-
  No cell of these rows narrows 'for every input' (looked for: loops, veiled, ifaces, maps, wideKeys, modest, calm, conditions, laid).
  DERIVED. THE GIVEN ROWS OF THIS SEAT. 2 by the template 'for every input the law returns true; each argument reads behind the call as it read before'; 0 by the template 'total and deterministic' (their statements: YtjdnfgpnfmgcmaaFmtTotals.lean).
  GIVEN WITH THE SEED: the statements are not yours to turn. If you find one false, say at which input.
  Laid BY PROGRAM, IN A SANDBOX (cutbox-rows.mjs): the forced cells as the released guide's own fill.sh prints them over the translation 969ec7da431df735… (all of the seat's roots in one cut). By AI agents, Wed Nov 11 2026. No macro, syntax, notation, axiom, sorry.
-/
import Derived.Test.YtjdnfgpnfmgcmaaFmtChecked
import GoSem.Claim
import GoSem.ClaimJoined
import GoSem.ClaimMapViews
import Derived.JoinedTies
import Derived.KernelRfl
namespace Go.Proofs.YtjdnfgpnfmgcmaaFmt
/- THE CELL 'sum', in the pinned program and in every row, IS THE sha256 OF THE DUMP (.gsa) THAT YtjdnfgpnfmgcmaaFmtProg.lean LOADS. Nothing in Lean hashes anything: it is a label: what it is worth is what the hold of that sum in a sandbox is worth. -/
noncomputable def Tryf.pinned : Pinned := { name := "ytjdnfgpnfmgcmaafmt", sum := "969ec7da431df7358f59d0ab2e61c906e798ce2b1f01908739c629c887252c45", checked := Tryf.checked }
namespace Rows
def none {H : Type} : Left H := { results := [], args := [] }

/-- 'n003_78.FnSliceStringSplitsAtEveryCut': WHATEVER THE INPUT: true; the input reads as it did. -/
def fnSliceStringSplitsAtEveryCutSpec : ChangeSpec := { name := "fnSliceStringSplitsAtEveryCut", fn := fun _ => fun
  | [d1, d2] => { results := [.lit (.bool true)], args := [d1, d2] }
  | _ => none }
def fnSliceStringSplitsAtEveryCutRow : OpenClaim := { program := "ytjdnfgpnfmgcmaafmt", sum := "969ec7da431df7358f59d0ab2e61c906e798ce2b1f01908739c629c887252c45", func := "github.com/expr-lang/expr/n003_78.FnSliceStringSplitsAtEveryCut", spec := "fnSliceStringSplitsAtEveryCut", stops := ["fmt.Sprintf"], inPlace := ["reflect.ValueOf", "(reflect.Value).Kind", "(reflect.Value).Len", "fmt.Sprintf", "(reflect.Value).CanAddr", "(reflect.Value).Type", "reflect.New", "(reflect.Value).Elem", "(reflect.Value).Set", "(reflect.Value).Slice", "(reflect.Value).IsValid", "(reflect.Value).Interface"], recurses := true, make := .lifted ["reflectrows", "leanrows"], apart := false }
/-- NO THEOREM (fmt's text is open here; it may be false): for the released tool's asking of the row's closed facts alone. THE STATEMENT IS 'FnSliceStringSplitsAtEveryCutToldSaid' (YtjdnfgpnfmgcmaaFmtCards.lean). -/
def FnSliceStringSplitsAtEveryCutFormAsk : Prop := fnSliceStringSplitsAtEveryCutRow.holds Tryf.pinned (OpenSpec.ofChange fnSliceStringSplitsAtEveryCutSpec)

/-- ITS FALSE NEIGHBOUR: 'it returns false'. Refute it at one input. -/
def fnSliceStringSplitsAtEveryCutWrong : ChangeSpec := { name := "fnSliceStringSplitsAtEveryCut", fn := fun _ => fun
  | [d1, d2] => { results := [.lit (.bool false)], args := [d1, d2] }
  | _ => none }
def FnSliceStringSplitsAtEveryCutWrongFormAsk : Prop := fnSliceStringSplitsAtEveryCutRow.holds Tryf.pinned (OpenSpec.ofChange fnSliceStringSplitsAtEveryCutWrong)

/-- 'n003_78.FnSliceIntsIsIndexFilter': WHATEVER THE INPUT: true; the input reads as it did. -/
def fnSliceIntsIsIndexFilterSpec : ChangeSpec := { name := "fnSliceIntsIsIndexFilter", fn := fun _ => fun
  | [d1, d2, d3] => { results := [.lit (.bool true)], args := [d1, d2, d3] }
  | _ => none }
def fnSliceIntsIsIndexFilterRow : OpenClaim := { program := "ytjdnfgpnfmgcmaafmt", sum := "969ec7da431df7358f59d0ab2e61c906e798ce2b1f01908739c629c887252c45", func := "github.com/expr-lang/expr/n003_78.FnSliceIntsIsIndexFilter", spec := "fnSliceIntsIsIndexFilter", stops := ["fmt.Sprintf"], inPlace := ["reflect.ValueOf", "(reflect.Value).Kind", "(reflect.Value).Len", "fmt.Sprintf", "(reflect.Value).CanAddr", "(reflect.Value).Type", "reflect.New", "(reflect.Value).Elem", "(reflect.Value).Set", "(reflect.Value).Slice", "(reflect.Value).IsValid", "(reflect.Value).Interface"], recurses := true, make := .lifted ["reflectrows", "leanrows"], apart := false }
/-- NO THEOREM (fmt's text is open here; it may be false): for the released tool's asking of the row's closed facts alone. THE STATEMENT IS 'FnSliceIntsIsIndexFilterToldSaid' (YtjdnfgpnfmgcmaaFmtCards.lean). -/
def FnSliceIntsIsIndexFilterFormAsk : Prop := fnSliceIntsIsIndexFilterRow.holds Tryf.pinned (OpenSpec.ofChange fnSliceIntsIsIndexFilterSpec)

/-- ITS FALSE NEIGHBOUR: 'it returns false'. Refute it at one input. -/
def fnSliceIntsIsIndexFilterWrong : ChangeSpec := { name := "fnSliceIntsIsIndexFilter", fn := fun _ => fun
  | [d1, d2, d3] => { results := [.lit (.bool false)], args := [d1, d2, d3] }
  | _ => none }
def FnSliceIntsIsIndexFilterWrongFormAsk : Prop := fnSliceIntsIsIndexFilterRow.holds Tryf.pinned (OpenSpec.ofChange fnSliceIntsIsIndexFilterWrong)

end Rows
end Go.Proofs.YtjdnfgpnfmgcmaaFmt
