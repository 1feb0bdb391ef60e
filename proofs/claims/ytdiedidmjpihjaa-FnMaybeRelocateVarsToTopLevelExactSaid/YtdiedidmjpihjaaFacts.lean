/-
  Facts on the whole program of the seat, each checked once by the kernel. No condition.
-/
import Derived.Test.YtdiedidmjpihjaaRows
import Derived.WalkKit
import Derived.ProofKit
namespace Go.Proofs.Ytdiedidmjpihjaa.Facts
theorem laidOut : laidOutB Try.prog = true := by kernel_rfl
theorem rowed : mapsRowed Try.prog = true := by kernel_rfl
theorem enter : Try.prog.mayEnter = true := by kernel_rfl
theorem heard : Try.prog.stopsHeard = true := by kernel_rfl
theorem own : ownKnob Try.prog.godebug = none := by kernel_rfl
theorem and_mk {a b : Bool} (h1 : a = true) (h2 : b = true) : (a && b) = true := by rw [h1, h2]; rfl
end Go.Proofs.Ytdiedidmjpihjaa.Facts
