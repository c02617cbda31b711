/-
  Closed facts on this seat's dump that every law of it asks, reckoned by the kernel once. No condition.
-/
import Derived.Test.YtjdnfgpnfmgcmaaFmtFacts
namespace Go.Proofs.YtjdnfgpnfmgcmaaFmt
open Go.Extern.Stop Go.Stop Go.Extern

theorem Tryf.worded : Tryf.pinned.checked.prog.envWorded = true := by kernel_rfl
theorem Tryf.mainIs : Tryf.pinned.checked.prog.mainIs = some (true, "7582a1969678836fd78ee3b8d009352013b76cc933ebe097b8dabf3a3c542944".toList) := by kernel_rfl
theorem Tryf.looks : true = Tryf.pinned.checked.prog.looks [] := by kernel_rfl
theorem Tryf.heard : Tryf.pinned.checked.prog.stopsHeard = true := by kernel_rfl
theorem Tryf.plainKeys : Rows.fnSliceStringSplitsAtEveryCutRow.plainKeys = Tryf.pinned.checked.prog.plainKeys := by kernel_rfl
theorem Tryf.liftsFinal : Rows.fnSliceStringSplitsAtEveryCutRow.lifted = Tryf.pinned.checked.prog.liftsFinal := by kernel_rfl
theorem Tryf.make : Tryf.pinned.checked.prog.make = some Rows.fnSliceStringSplitsAtEveryCutRow.make := by kernel_rfl

end Go.Proofs.YtjdnfgpnfmgcmaaFmt
