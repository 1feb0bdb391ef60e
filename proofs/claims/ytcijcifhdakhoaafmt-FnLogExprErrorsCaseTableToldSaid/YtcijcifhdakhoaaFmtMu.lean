/-
  The numbers of sync.Mutex in this seat, and that the program holds its text. No condition.
-/
import Derived.Test.YtcijcifhdakhoaaFmtProg
import Derived.Conc.MuLone
import Derived.KernelRfl
namespace Go.Proofs.YtcijcifhdakhoaaFmt.Mu
abbrev muLink : Go.Conc.Locks.MuLink := { lock := 17, unlock := 18, ilock := 26, iunlock := 27, lockSlow := 40, unlockSlow := 43, disable := 36, enable := 38, acquire := 39, relMerge := 41, cas32 := 37, add32 := 42, tMutex := 185, tIMutex := 183, tPMutex := 191, tPIMutex := 202, tPI32 := 204, tUP := 206, tNoCopy := 181, tU32 := 45 }
theorem muLib : Go.Conc.Locks.MuLib Tryf.prog muLink :=
  ⟨Tryf.func17, Tryf.func18, Tryf.func26, Tryf.func27, Tryf.func36, Tryf.func38, Tryf.func39, Tryf.func41, Tryf.func37, Tryf.func42,
    Tryf.underlying183, Tryf.runUnderlying183, Tryf.sizeOf183, Tryf.isAgg183, Tryf.zeroValue183, Tryf.underlying185, Tryf.runUnderlying185, Tryf.sizeOf185, Tryf.isAgg185, Tryf.zeroValue185,
    Tryf.underlying191, Tryf.runUnderlying191, Tryf.sizeOf191, Tryf.isAgg191, Tryf.zeroValue191, Tryf.underlying202, Tryf.runUnderlying202, Tryf.sizeOf202, Tryf.isAgg202, Tryf.zeroValue202,
    Tryf.underlying204, Tryf.runUnderlying204, Tryf.sizeOf204, Tryf.isAgg204, Tryf.zeroValue204, Tryf.underlying206, Tryf.runUnderlying206, Tryf.sizeOf206, Tryf.isAgg206, Tryf.zeroValue206,
    Tryf.underlying181, Tryf.runUnderlying181, Tryf.sizeOf181, Tryf.isAgg181, Tryf.zeroValue181, Tryf.underlying21, Tryf.runUnderlying21, Tryf.sizeOf21, Tryf.isAgg21, Tryf.zeroValue21, (by kernel_rfl)⟩
end Go.Proofs.YtcijcifhdakhoaaFmt.Mu
