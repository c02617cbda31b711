/-
  The walk of FnPatchMovesLocationAndRebinds: it returns true for every six ints and no block that was there turns. No condition.
-/
import Derived.Test.YtneifbmipelpbaaRows
import Derived.WalkKit
import Derived.WalkSpells
import Derived.Handy
import Derived.Lib.Hide
import Derived.Deep.RegionWith
import Derived.OrdersIn
namespace Go.Proofs.Ytneifbmipelpbaa
open Go.RowKit

@[go_sem] theorem nil_ahead (a : Addr) (w : World) : (nilAhead 506 51 (.pointer (some a)) "SetLocation").run Try.prog w = .ok (some false) w := by kernel_rfl

set_option maxRecDepth 100000 in
set_option maxHeartbeats 20000000 in
theorem patch_walk (a b c d e f : Int) (w : World) :
    Calls Try.prog 3 #[.int .i64 a, .int .i64 b, .int .i64 c, .int .i64 d, .int .i64 e, .int .i64 f] w fun e w' => e = .returned (.bool true) ∧ Below w.heap.size w w' := by
  go_enter Try.func3, Try.ntmps3
  go_wp2
  go_region_calls
  all_goals
    go_wp2
    go_ret
    refine ⟨rfl, ?_⟩
    repeat' first
      | exact Below.refl _ _
      | refine Below.alloc ?_ (by simp <;> omega) _
      | refine Below.drew ?_

end Go.Proofs.Ytneifbmipelpbaa
