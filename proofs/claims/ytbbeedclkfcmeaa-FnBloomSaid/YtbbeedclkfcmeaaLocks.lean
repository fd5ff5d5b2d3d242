/- The library's sync.Mutex at this dump's numbers. -/
import Derived.Test.YtbbeedclkfcmeaaProg
import Derived.Conc.RwLib
import Derived.Conc.MuData
import Derived.KernelRfl
namespace Go.Proofs
abbrev Try.muLink : Go.Conc.Locks.MuLink := { lock := 19, unlock := 21, ilock := 26, iunlock := 28, lockSlow := 35, unlockSlow := 39, disable := 31, enable := 33, acquire := 34, relMerge := 37, cas32 := 32, add32 := 38, tMutex := 49, tIMutex := 47, tPMutex := 54, tPIMutex := 58, tPI32 := 60, tUP := 62, tNoCopy := 45, tU32 := 23 }
theorem Try.muLib : Go.Conc.Locks.MuLib Try.prog Try.muLink :=
  ⟨Try.func19, Try.func21, Try.func26, Try.func28, Try.func31, Try.func33, Try.func34, Try.func37, Try.func32, Try.func38, Try.underlying47, Try.runUnderlying47, Try.sizeOf47, Try.isAgg47, Try.zeroValue47, Try.underlying49, Try.runUnderlying49, Try.sizeOf49, Try.isAgg49, Try.zeroValue49, Try.underlying54, Try.runUnderlying54, Try.sizeOf54, Try.isAgg54, Try.zeroValue54, Try.underlying58, Try.runUnderlying58, Try.sizeOf58, Try.isAgg58, Try.zeroValue58, Try.underlying60, Try.runUnderlying60, Try.sizeOf60, Try.isAgg60, Try.zeroValue60, Try.underlying62, Try.runUnderlying62, Try.sizeOf62, Try.isAgg62, Try.zeroValue62, Try.underlying45, Try.runUnderlying45, Try.sizeOf45, Try.isAgg45, Try.zeroValue45, Try.underlying21, Try.runUnderlying21, Try.sizeOf21, Try.isAgg21, Try.zeroValue21, (by kernel_rfl)⟩
end Go.Proofs
