/-
  The closed facts for walks over fmt.Sprintf at the formats that the claims reach, operands strings. No condition.
-/
import Derived.Test.YtjpkoddghagdgaaFmtRProg
import Derived.Stop.CallBack
import Derived.Stop.IfaceNil
import Derived.Stop.FmtTextKit
import GoSem.ClaimData
import GoSem.ClaimSeven
import Derived.KernelRfl
namespace Go.Proofs.YtjpkoddghagdgaaFmtR
open Go.Extern.Stop Go.Stop Go.Extern

@[go_sem] theorem Tryf.call36 (args : Array Value) (w : World) : (callFunc 36 args).run Tryf.prog w = ((FmtStop.sprintf #[9, 196] #[9] args).run Tryf.prog w).andThen fun v w' => .ok (.value v) w' :=
  run_callFunc_extern Tryf.func36 (by kernel_rfl) (by kernel_rfl) (by kernel_rfl) (by kernel_rfl) args w

@[go_sem] theorem Tryf.guard (name : String) (w : World) : (FmtStop.guard name).run Tryf.prog w = .ok () w := by kernel_rfl

@[go_sem] theorem Tryf.fmt0 : FmtStop.printed? ⟨#[35, 37, 115]⟩ 1 = some [(0, 115, false)] := by kernel_rfl
@[go_sem] theorem Tryf.fmt0r (w : World) : (FmtDoors.printed ⟨#[35, 37, 115]⟩ 1).run Tryf.prog w = .ok [(0, 115, false)] w := by kernel_rfl
theorem Tryf.parse0 : (FmtText.parse [35, 37, 115]).map FmtText.glue = some [.lit [35], .verb {} 115] := by rfl
@[go_sem] theorem Tryf.fmt1 : FmtStop.printed? ⟨#[37, 113]⟩ 1 = some [(0, 113, false)] := by kernel_rfl
@[go_sem] theorem Tryf.fmt1r (w : World) : (FmtDoors.printed ⟨#[37, 113]⟩ 1).run Tryf.prog w = .ok [(0, 113, false)] w := by kernel_rfl
theorem Tryf.parse1 : (FmtText.parse [37, 113]).map FmtText.glue = some [.verb {} 113] := by rfl
@[go_sem] theorem Tryf.fmt2 : FmtStop.printed? ⟨#[37, 115, 91, 58, 93]⟩ 1 = some [(0, 115, false)] := by kernel_rfl
@[go_sem] theorem Tryf.fmt2r (w : World) : (FmtDoors.printed ⟨#[37, 115, 91, 58, 93]⟩ 1).run Tryf.prog w = .ok [(0, 115, false)] w := by kernel_rfl
theorem Tryf.parse2 : (FmtText.parse [37, 115, 91, 58, 93]).map FmtText.glue = some [.verb {} 115, .lit [91, 58, 93]] := by rfl
@[go_sem] theorem Tryf.fmt3 : FmtStop.printed? ⟨#[37, 115, 91, 58, 37, 115, 93]⟩ 2 = some [(0, 115, false), (1, 115, false)] := by kernel_rfl
@[go_sem] theorem Tryf.fmt3r (w : World) : (FmtDoors.printed ⟨#[37, 115, 91, 58, 37, 115, 93]⟩ 2).run Tryf.prog w = .ok [(0, 115, false), (1, 115, false)] w := by kernel_rfl
theorem Tryf.parse3 : (FmtText.parse [37, 115, 91, 58, 37, 115, 93]).map FmtText.glue = some [.verb {} 115, .lit [91, 58], .verb {} 115, .lit [93]] := by rfl
@[go_sem] theorem Tryf.fmt4 : FmtStop.printed? ⟨#[37, 115, 91, 37, 115, 58, 93]⟩ 2 = some [(0, 115, false), (1, 115, false)] := by kernel_rfl
@[go_sem] theorem Tryf.fmt4r (w : World) : (FmtDoors.printed ⟨#[37, 115, 91, 37, 115, 58, 93]⟩ 2).run Tryf.prog w = .ok [(0, 115, false), (1, 115, false)] w := by kernel_rfl
theorem Tryf.parse4 : (FmtText.parse [37, 115, 91, 37, 115, 58, 93]).map FmtText.glue = some [.verb {} 115, .lit [91], .verb {} 115, .lit [58, 93]] := by rfl
@[go_sem] theorem Tryf.fmt5 : FmtStop.printed? ⟨#[37, 115, 91, 37, 115, 58, 37, 115, 93]⟩ 3 = some [(0, 115, false), (1, 115, false), (2, 115, false)] := by kernel_rfl
@[go_sem] theorem Tryf.fmt5r (w : World) : (FmtDoors.printed ⟨#[37, 115, 91, 37, 115, 58, 37, 115, 93]⟩ 3).run Tryf.prog w = .ok [(0, 115, false), (1, 115, false), (2, 115, false)] w := by kernel_rfl
theorem Tryf.parse5 : (FmtText.parse [37, 115, 91, 37, 115, 58, 37, 115, 93]).map FmtText.glue = some [.verb {} 115, .lit [91], .verb {} 115, .lit [58], .verb {} 115, .lit [93]] := by rfl
@[go_sem] theorem Tryf.fmt6 : FmtStop.printed? ⟨#[37, 115, 40, 37, 115, 41]⟩ 2 = some [(0, 115, false), (1, 115, false)] := by kernel_rfl
@[go_sem] theorem Tryf.fmt6r (w : World) : (FmtDoors.printed ⟨#[37, 115, 40, 37, 115, 41]⟩ 2).run Tryf.prog w = .ok [(0, 115, false), (1, 115, false)] w := by kernel_rfl
theorem Tryf.parse6 : (FmtText.parse [37, 115, 40, 37, 115, 41]).map FmtText.glue = some [.verb {} 115, .lit [40], .verb {} 115, .lit [41]] := by rfl
@[go_sem] theorem Tryf.fmt7 : FmtStop.printed? ⟨#[37, 115, 32, 63, 32, 37, 115, 32, 58, 32, 37, 115]⟩ 3 = some [(0, 115, false), (1, 115, false), (2, 115, false)] := by kernel_rfl
@[go_sem] theorem Tryf.fmt7r (w : World) : (FmtDoors.printed ⟨#[37, 115, 32, 63, 32, 37, 115, 32, 58, 32, 37, 115]⟩ 3).run Tryf.prog w = .ok [(0, 115, false), (1, 115, false), (2, 115, false)] w := by kernel_rfl
theorem Tryf.parse7 : (FmtText.parse [37, 115, 32, 63, 32, 37, 115, 32, 58, 32, 37, 115]).map FmtText.glue = some [.verb {} 115, .lit [32, 63, 32], .verb {} 115, .lit [32, 58, 32], .verb {} 115] := by rfl
@[go_sem] theorem Tryf.fmt8 : FmtStop.printed? ⟨#[40, 37, 115, 41]⟩ 1 = some [(0, 115, false)] := by kernel_rfl
@[go_sem] theorem Tryf.fmt8r (w : World) : (FmtDoors.printed ⟨#[40, 37, 115, 41]⟩ 1).run Tryf.prog w = .ok [(0, 115, false)] w := by kernel_rfl
theorem Tryf.parse8 : (FmtText.parse [40, 37, 115, 41]).map FmtText.glue = some [.lit [40], .verb {} 115, .lit [41]] := by rfl

def Tryf.shape9 : List UInt8 := [12, 6, 0, 0, 0, 0, 0, 0, 0, 115, 116, 114, 105, 110, 103]
@[go_sem] theorem Tryf.op9_113 (name : String) (x : ByteArray) (w : World) : (FmtStop.operand name false 113 false (.iface 9 (.string x))).run Tryf.prog w = .ok (Tryf.shape9, FmtStop.pack x.data.toList) w := by kernel_rfl
@[go_sem] theorem Tryf.op9_115 (name : String) (x : ByteArray) (w : World) : (FmtStop.operand name false 115 false (.iface 9 (.string x))).run Tryf.prog w = .ok (Tryf.shape9, FmtStop.pack x.data.toList) w := by kernel_rfl
@[go_sem] theorem Tryf.strict9 (name : String) (x : ByteArray) (w : World) : (FmtStop.strict name (.iface 9 (.string x))).run Tryf.prog w = .ok (Tryf.shape9, FmtStop.pack x.data.toList) w := by kernel_rfl

end Go.Proofs.YtjpkoddghagdgaaFmtR
