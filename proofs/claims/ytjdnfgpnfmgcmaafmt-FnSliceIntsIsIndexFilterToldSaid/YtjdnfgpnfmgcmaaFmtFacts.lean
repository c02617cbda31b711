/-
  Closed facts on this seat's dump, reckoned by the kernel. No condition.
-/
import Derived.Test.YtjdnfgpnfmgcmaaFmtCards
import Derived.KernelRfl
import Derived.SevenToldRow
namespace Go.Proofs.YtjdnfgpnfmgcmaaFmt
open Go.Extern.Stop Go.Stop Go.Extern

theorem Tryf.own : ownKnob Tryf.prog.godebug = none := by kernel_rfl
theorem Tryf.laidOut : laidOutB Tryf.pinned.checked.prog = true := by kernel_rfl
theorem Tryf.stops : Tryf.pinned.checked.prog.stops = ["fmt.Sprintf"] := by kernel_rfl
theorem Tryf.stopKnobs : Tryf.pinned.checked.prog.stopKnobs = [] := by kernel_rfl
theorem Tryf.quiet (os : Os) : Stop.quiet Tryf.pinned.checked.prog os := by
  intro k hk
  rw [Tryf.stopKnobs] at hk
  cases hk

theorem Tryf.enters : Tryf.checked.prog.mayEnter = true := by kernel_rfl
theorem Tryf.rowed : mapsRowed Tryf.pinned.checked.prog = true := by kernel_rfl

end Go.Proofs.YtjdnfgpnfmgcmaaFmt
