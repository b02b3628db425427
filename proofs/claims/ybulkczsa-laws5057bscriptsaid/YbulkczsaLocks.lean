/-
  The numbers under which seat b5057a's program holds sync.Mutex's functions and types, and that it holds them (the guide's 6u; laid by hand, checked by the kernel).
-/
import Derived.Test.YbulkczsaProg
import Derived.Conc.RwLib
import Derived.Conc.MuLone
import Derived.KernelRfl
namespace Go.Proofs.Ybulkczsa
abbrev muLink : Go.Conc.Locks.MuLink := { lock := 20, unlock := 21, ilock := 28, iunlock := 29, lockSlow := 36, unlockSlow := 39, disable := 32, enable := 34, acquire := 35, relMerge := 37, cas32 := 33, add32 := 38, tMutex := 45, tIMutex := 43, tPMutex := 86, tPIMutex := 89, tPI32 := 91, tUP := 32, tNoCopy := 40, tU32 := 41 }
theorem muLib : Go.Conc.Locks.MuLib Yba.prog muLink :=
  ⟨Yba.func20, Yba.func21, Yba.func28, Yba.func29, Yba.func32, Yba.func34, Yba.func35, Yba.func37, Yba.func33, Yba.func38, Yba.underlying43, Yba.runUnderlying43, Yba.sizeOf43, Yba.isAgg43, Yba.zeroValue43, Yba.underlying45, Yba.runUnderlying45, Yba.sizeOf45, Yba.isAgg45, Yba.zeroValue45, Yba.underlying86, Yba.runUnderlying86, Yba.sizeOf86, Yba.isAgg86, Yba.zeroValue86, Yba.underlying89, Yba.runUnderlying89, Yba.sizeOf89, Yba.isAgg89, Yba.zeroValue89, Yba.underlying91, Yba.runUnderlying91, Yba.sizeOf91, Yba.isAgg91, Yba.zeroValue91, Yba.underlying32, Yba.runUnderlying32, Yba.sizeOf32, Yba.isAgg32, Yba.zeroValue32, Yba.underlying40, Yba.runUnderlying40, Yba.sizeOf40, Yba.isAgg40, Yba.zeroValue40, Yba.underlying21, Yba.runUnderlying21, Yba.sizeOf21, Yba.isAgg21, Yba.zeroValue21, (by kernel_rfl)⟩
end Go.Proofs.Ybulkczsa
