/-
  The numbers under which this dump holds sync.Mutex's functions and types, and that it holds them (after the worked RegLocks; checked by the kernel).
-/
import Derived.Test.YbulkivwProg
import Derived.Conc.MuLib
import Derived.KernelRfl
namespace Go.Proofs.Ybulkivw
abbrev muLink : Go.Conc.Locks.MuLink := { lock := 12, unlock := 9, ilock := 15, iunlock := 14, lockSlow := 23, unlockSlow := 22, disable := 16, enable := 17, acquire := 19, relMerge := 20, cas32 := 18, add32 := 21, tMutex := 35, tIMutex := 33, tPMutex := 83, tPIMutex := 87, tPI32 := 89, tUP := 91, tNoCopy := 30, tU32 := 31 }
theorem muLib : Go.Conc.Locks.MuLib Yba.prog muLink :=
  ⟨Yba.func12, Yba.func9, Yba.func15, Yba.func14, Yba.func16, Yba.func17, Yba.func19, Yba.func20, Yba.func18, Yba.func21, Yba.underlying33, Yba.runUnderlying33, Yba.sizeOf33, Yba.isAgg33, Yba.zeroValue33, Yba.underlying35, Yba.runUnderlying35, Yba.sizeOf35, Yba.isAgg35, Yba.zeroValue35, Yba.underlying83, Yba.runUnderlying83, Yba.sizeOf83, Yba.isAgg83, Yba.zeroValue83, Yba.underlying87, Yba.runUnderlying87, Yba.sizeOf87, Yba.isAgg87, Yba.zeroValue87, Yba.underlying89, Yba.runUnderlying89, Yba.sizeOf89, Yba.isAgg89, Yba.zeroValue89, Yba.underlying91, Yba.runUnderlying91, Yba.sizeOf91, Yba.isAgg91, Yba.zeroValue91, Yba.underlying30, Yba.runUnderlying30, Yba.sizeOf30, Yba.isAgg30, Yba.zeroValue30, Yba.underlying21, Yba.runUnderlying21, Yba.sizeOf21, Yba.isAgg21, Yba.zeroValue21, (by kernel_rfl)⟩
end Go.Proofs.Ybulkivw
