/-
  The numbers under which this dump holds sync.Mutex's functions and types, and that it holds them.
-/
import Derived.Test.YbulkrjsFmtRows
import Derived.Conc.MuLib
import Derived.KernelRfl
namespace Go.Proofs.YbulkrjsFmt
abbrev muLink : Go.Conc.Locks.MuLink := { lock := 30, unlock := 18, ilock := 40, iunlock := 35, lockSlow := 53, unlockSlow := 49, disable := 43, enable := 44, acquire := 46, relMerge := 47, cas32 := 45, add32 := 48, tMutex := 37, tIMutex := 35, tPMutex := 62, tPIMutex := 67, tPI32 := 69, tUP := 71, tNoCopy := 33, tU32 := 22 }
theorem muLib : Go.Conc.Locks.MuLib Ybaf.prog muLink :=
  ⟨Ybaf.func30, Ybaf.func18, Ybaf.func40, Ybaf.func35, Ybaf.func43, Ybaf.func44, Ybaf.func46, Ybaf.func47, Ybaf.func45, Ybaf.func48, Ybaf.underlying35, Ybaf.runUnderlying35, Ybaf.sizeOf35, Ybaf.isAgg35, Ybaf.zeroValue35, Ybaf.underlying37, Ybaf.runUnderlying37, Ybaf.sizeOf37, Ybaf.isAgg37, Ybaf.zeroValue37, Ybaf.underlying62, Ybaf.runUnderlying62, Ybaf.sizeOf62, Ybaf.isAgg62, Ybaf.zeroValue62, Ybaf.underlying67, Ybaf.runUnderlying67, Ybaf.sizeOf67, Ybaf.isAgg67, Ybaf.zeroValue67, Ybaf.underlying69, Ybaf.runUnderlying69, Ybaf.sizeOf69, Ybaf.isAgg69, Ybaf.zeroValue69, Ybaf.underlying71, Ybaf.runUnderlying71, Ybaf.sizeOf71, Ybaf.isAgg71, Ybaf.zeroValue71, Ybaf.underlying33, Ybaf.runUnderlying33, Ybaf.sizeOf33, Ybaf.isAgg33, Ybaf.zeroValue33, Ybaf.underlying21, Ybaf.runUnderlying21, Ybaf.sizeOf21, Ybaf.isAgg21, Ybaf.zeroValue21, (by kernel_rfl)⟩
end Go.Proofs.YbulkrjsFmt
