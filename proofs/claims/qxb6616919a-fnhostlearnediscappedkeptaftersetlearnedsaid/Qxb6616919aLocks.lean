/-
  The numbers under which this dump holds sync.Mutex's functions and types, and that it holds them (Derived/Conc/MuLib.lean); checked by the kernel.
-/
import Derived.Test.Qxb6616919aProg
import Derived.Conc.MuLone
import Derived.KernelRfl
namespace Go.Proofs.Qxb6616919a
abbrev muLink : Go.Conc.Locks.MuLink := { lock := 28, unlock := 29, ilock := 38, iunlock := 39, lockSlow := 47, unlockSlow := 50, disable := 43, enable := 45, acquire := 46, relMerge := 48, cas32 := 44, add32 := 49, tMutex := 64, tIMutex := 62, tPMutex := 84, tPIMutex := 87, tPI32 := 89, tUP := 91, tNoCopy := 59, tU32 := 60 }
theorem muLib : Go.Conc.Locks.MuLib Try.prog muLink :=
  ⟨Try.func28, Try.func29, Try.func38, Try.func39, Try.func43, Try.func45, Try.func46, Try.func48, Try.func44, Try.func49, Try.underlying62, Try.runUnderlying62, Try.sizeOf62, Try.isAgg62, Try.zeroValue62, Try.underlying64, Try.runUnderlying64, Try.sizeOf64, Try.isAgg64, Try.zeroValue64, Try.underlying84, Try.runUnderlying84, Try.sizeOf84, Try.isAgg84, Try.zeroValue84, Try.underlying87, Try.runUnderlying87, Try.sizeOf87, Try.isAgg87, Try.zeroValue87, Try.underlying89, Try.runUnderlying89, Try.sizeOf89, Try.isAgg89, Try.zeroValue89, Try.underlying91, Try.runUnderlying91, Try.sizeOf91, Try.isAgg91, Try.zeroValue91, Try.underlying59, Try.runUnderlying59, Try.sizeOf59, Try.isAgg59, Try.zeroValue59, Try.underlying21, Try.runUnderlying21, Try.sizeOf21, Try.isAgg21, Try.zeroValue21, (by kernel_rfl)⟩
end Go.Proofs.Qxb6616919a
