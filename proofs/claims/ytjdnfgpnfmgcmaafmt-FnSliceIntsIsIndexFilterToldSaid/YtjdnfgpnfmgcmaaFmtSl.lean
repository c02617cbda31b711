/-
  runtime.Slice over a string and over bytes. No condition but those in each statement.
-/
import Derived.Test.YtjdnfgpnfmgcmaaFmtExt
import Derived.Test.YtjdnfgpnfmgcmaaFmtLaw
namespace Go.Proofs.YtjdnfgpnfmgcmaaFmt
open Go.RowKit

@[go_sem] theorem ti_26 (x : Int) (w : World) : (Instr.typeAssert (.iface 3 (.int .i64 x)) 20 26 true).run Tryf.prog w = .ok (.tuple #[.float .f32 0, .bool false]) w := by kernel_rfl

@[go_sem] theorem ti_27 (x : Int) (w : World) : (Instr.typeAssert (.iface 3 (.int .i64 x)) 20 27 true).run Tryf.prog w = .ok (.tuple #[.float .f64 0, .bool false]) w := by kernel_rfl
@[go_sem] theorem ti_3 (x : Int) (w : World) : (Instr.typeAssert (.iface 3 (.int .i64 x)) 20 3 true).run Tryf.prog w = .ok (.tuple #[.int .i64 x, .bool true]) w := by kernel_rfl

set_option maxRecDepth 100000 in
set_option maxHeartbeats 1000000 in
theorem toInt (x : Int) (w : World) : Calls Tryf.prog 14 #[.iface 3 (.int .i64 x)] w fun e w' => e = .returned (.int .i64 x) ∧ w = w' := by
  go_enter Tryf.func14, Tryf.ntmps14
  go_wp2
  go_ret
  exact ⟨rfl, rfl⟩

end Go.Proofs.YtjdnfgpnfmgcmaaFmt
