/-
  Facts on the whole program of the seat, each checked once by the kernel. No condition.
-/
import Derived.Test.YtknidlahblfnnaaDoorRows
import Derived.WalkKit
import Derived.ProofKit
namespace Go.Proofs.YtknidlahblfnnaaDoor.Facts
theorem laidOut : laidOutB Tryd.prog = true := by kernel_rfl
theorem rowed : mapsRowed Tryd.prog = true := by kernel_rfl
theorem enter : Tryd.prog.mayEnter = true := by kernel_rfl
theorem heard : Tryd.prog.stopsHeard = true := by kernel_rfl
theorem own : ownKnob Tryd.prog.godebug = none := by kernel_rfl
theorem and_mk {a b : Bool} (h1 : a = true) (h2 : b = true) : (a && b) = true := by rw [h1, h2]; rfl
end Go.Proofs.YtknidlahblfnnaaDoor.Facts
