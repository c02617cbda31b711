/-
  Closed facts on this seat's dump that every law of it asks, reckoned by the kernel once. No condition.
-/
import Derived.Test.YtfdnbkdkikaadaaFmtFacts
namespace Go.Proofs.YtfdnbkdkikaadaaFmt
open Go.Extern.Stop Go.Stop Go.Extern

theorem Tryf.worded : Tryf.pinned.checked.prog.envWorded = true := by kernel_rfl
theorem Tryf.mainIs : Tryf.pinned.checked.prog.mainIs = some (true, "30edfdce8415939d9790793e948c78e0d7ce3b0e32d1794c8d6344a953004460".toList) := by kernel_rfl
theorem Tryf.looks : true = Tryf.pinned.checked.prog.looks [] := by kernel_rfl
theorem Tryf.heard : Tryf.pinned.checked.prog.stopsHeard = true := by kernel_rfl
theorem Tryf.plainKeys : Rows.fnWalkCountsSharedNodesOncePerOccurrenceRow.plainKeys = Tryf.pinned.checked.prog.plainKeys := by kernel_rfl
theorem Tryf.liftsFinal : Rows.fnWalkCountsSharedNodesOncePerOccurrenceRow.lifted = Tryf.pinned.checked.prog.liftsFinal := by kernel_rfl
theorem Tryf.make : Tryf.pinned.checked.prog.make = some Rows.fnWalkCountsSharedNodesOncePerOccurrenceRow.make := by kernel_rfl

end Go.Proofs.YtfdnbkdkikaadaaFmt
