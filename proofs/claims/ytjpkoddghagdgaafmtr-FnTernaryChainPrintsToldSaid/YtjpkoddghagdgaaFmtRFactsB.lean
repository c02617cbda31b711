/-
  Closed facts on this seat's dump that every law of it asks, reckoned by the kernel once. No condition.
-/
import Derived.Test.YtjpkoddghagdgaaFmtRFacts
namespace Go.Proofs.YtjpkoddghagdgaaFmtR
open Go.Extern.Stop Go.Stop Go.Extern

theorem Tryf.worded : Tryf.pinned.checked.prog.envWorded = true := by kernel_rfl
theorem Tryf.mainIs : Tryf.pinned.checked.prog.mainIs = some (true, "a47bb13db4ba7a63e4a92ce68e710b6b5755cfb9361abd2cdaac16bfe409dbf7".toList) := by kernel_rfl
theorem Tryf.looks : true = Tryf.pinned.checked.prog.looks [] := by kernel_rfl
theorem Tryf.heard : Tryf.pinned.checked.prog.stopsHeard = true := by kernel_rfl
theorem Tryf.plainKeys : Rows.fnPointerStringIsHashNameRow.plainKeys = Tryf.pinned.checked.prog.plainKeys := by kernel_rfl
theorem Tryf.liftsFinal : Rows.fnPointerStringIsHashNameRow.lifted = Tryf.pinned.checked.prog.liftsFinal := by kernel_rfl
theorem Tryf.make : Tryf.pinned.checked.prog.make = some Rows.fnPointerStringIsHashNameRow.make := by kernel_rfl

end Go.Proofs.YtjpkoddghagdgaaFmtR
