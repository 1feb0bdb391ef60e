/-
  Facts on the whole program of the seat, each checked once by the kernel. No condition.
-/
import Derived.Test.YtcijcifhdakhoaaFmtRows
import Derived.WalkKit
import Derived.ProofKit
namespace Go.Proofs.YtcijcifhdakhoaaFmt.Facts
theorem laidOut : laidOutB Tryf.prog = true := by kernel_rfl
theorem rowed : mapsRowed Tryf.prog = true := by kernel_rfl
theorem enter : Tryf.prog.mayEnter = true := by kernel_rfl
theorem heard : Tryf.prog.stopsHeard = true := by kernel_rfl
theorem own : ownKnob Tryf.prog.godebug = none := by kernel_rfl
theorem and_mk {a b : Bool} (h1 : a = true) (h2 : b = true) : (a && b) = true := by rw [h1, h2]; rfl
end Go.Proofs.YtcijcifhdakhoaaFmt.Facts
