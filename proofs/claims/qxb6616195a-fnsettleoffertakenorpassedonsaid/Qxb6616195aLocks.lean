/- The numbers under which this program holds sync.Mutex's functions and types, and that it holds them. -/
import Derived.Test.Qxb6616195aProg
import Derived.Conc.MuLib
import Derived.KernelRfl
namespace Go.Proofs
abbrev Try.muLink : Go.Conc.Locks.MuLink := { lock := 34, unlock := 35, ilock := 39, iunlock := 40, lockSlow := 50, unlockSlow := 53, disable := 46, enable := 48, acquire := 49, relMerge := 51, cas32 := 47, add32 := 52, tMutex := 59, tIMutex := 57, tPMutex := 82, tPIMutex := 87, tPI32 := 89, tUP := 91, tNoCopy := 54, tU32 := 55 }
theorem Try.muLib : Go.Conc.Locks.MuLib Try.prog Try.muLink :=
  ⟨Try.func34, Try.func35, Try.func39, Try.func40, Try.func46, Try.func48, Try.func49, Try.func51, Try.func47, Try.func52, Try.underlying57, Try.runUnderlying57, Try.sizeOf57, Try.isAgg57, Try.zeroValue57, Try.underlying59, Try.runUnderlying59, Try.sizeOf59, Try.isAgg59, Try.zeroValue59, Try.underlying82, Try.runUnderlying82, Try.sizeOf82, Try.isAgg82, Try.zeroValue82, Try.underlying87, Try.runUnderlying87, Try.sizeOf87, Try.isAgg87, Try.zeroValue87, Try.underlying89, Try.runUnderlying89, Try.sizeOf89, Try.isAgg89, Try.zeroValue89, Try.underlying91, Try.runUnderlying91, Try.sizeOf91, Try.isAgg91, Try.zeroValue91, Try.underlying54, Try.runUnderlying54, Try.sizeOf54, Try.isAgg54, Try.zeroValue54, Try.underlying21, Try.runUnderlying21, Try.sizeOf21, Try.isAgg21, Try.zeroValue21, (by kernel_rfl)⟩
end Go.Proofs
