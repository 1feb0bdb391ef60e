/-
  The numbers of sync.Mutex in this seat, and that the program holds its text. No condition.
-/
import Derived.Test.YtfalpclhekpnnaaFmtProg
import Derived.Conc.MuLone
import Derived.KernelRfl
namespace Go.Proofs.YtfalpclhekpnnaaFmt.Mu
abbrev muLink : Go.Conc.Locks.MuLink := { lock := 12, unlock := 13, ilock := 26, iunlock := 27, lockSlow := 38, unlockSlow := 41, disable := 34, enable := 36, acquire := 37, relMerge := 39, cas32 := 35, add32 := 40, tMutex := 168, tIMutex := 166, tPMutex := 185, tPIMutex := 194, tPI32 := 196, tUP := 198, tNoCopy := 164, tU32 := 44 }
theorem muLib : Go.Conc.Locks.MuLib Tryf.prog muLink :=
  ⟨Tryf.func12, Tryf.func13, Tryf.func26, Tryf.func27, Tryf.func34, Tryf.func36, Tryf.func37, Tryf.func39, Tryf.func35, Tryf.func40,
    Tryf.underlying166, Tryf.runUnderlying166, Tryf.sizeOf166, Tryf.isAgg166, Tryf.zeroValue166, Tryf.underlying168, Tryf.runUnderlying168, Tryf.sizeOf168, Tryf.isAgg168, Tryf.zeroValue168,
    Tryf.underlying185, Tryf.runUnderlying185, Tryf.sizeOf185, Tryf.isAgg185, Tryf.zeroValue185, Tryf.underlying194, Tryf.runUnderlying194, Tryf.sizeOf194, Tryf.isAgg194, Tryf.zeroValue194,
    Tryf.underlying196, Tryf.runUnderlying196, Tryf.sizeOf196, Tryf.isAgg196, Tryf.zeroValue196, Tryf.underlying198, Tryf.runUnderlying198, Tryf.sizeOf198, Tryf.isAgg198, Tryf.zeroValue198,
    Tryf.underlying164, Tryf.runUnderlying164, Tryf.sizeOf164, Tryf.isAgg164, Tryf.zeroValue164, Tryf.underlying21, Tryf.runUnderlying21, Tryf.sizeOf21, Tryf.isAgg21, Tryf.zeroValue21, (by kernel_rfl)⟩
end Go.Proofs.YtfalpclhekpnnaaFmt.Mu
