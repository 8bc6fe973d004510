import Derived.Test.Qxb6609217aFmtCards
import Derived.KernelRfl
import Derived.SevenToldRow
namespace Go.Proofs.Qxb6609217aFmt
open Go.Extern.Stop Go.Stop Go.Extern

theorem fOwn : ownKnob Tryf.prog.godebug = none := by kernel_rfl
theorem fLaidOut : laidOutB Tryf.pinned.checked.prog = true := by kernel_rfl
theorem fStops : Tryf.pinned.checked.prog.stops = ["fmt.Sprintf", "fmt.errorf"] := by kernel_rfl
theorem fStopKnobs : Tryf.pinned.checked.prog.stopKnobs = [] := by kernel_rfl
theorem fQuiet (os : Os) : Stop.quiet Tryf.pinned.checked.prog os := by
  intro k hk
  rw [fStopKnobs] at hk
  cases hk
end Go.Proofs.Qxb6609217aFmt
