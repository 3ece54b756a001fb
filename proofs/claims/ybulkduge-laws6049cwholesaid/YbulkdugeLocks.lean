/-
  The numbers under which this program holds sync.Mutex's functions and types (read off the dump's rows), and that it holds them.
-/
import Derived.Test.YbulkdugeProg
import Derived.Conc.MuLib
import Derived.KernelRfl
namespace Go.Proofs
abbrev Yba.muLink : Go.Conc.Locks.MuLink := { lock := 24, unlock := 25, ilock := 28, iunlock := 29, lockSlow := 36, unlockSlow := 39, disable := 32, enable := 34, acquire := 35, relMerge := 37, cas32 := 33, add32 := 38, tMutex := 70, tIMutex := 68, tPMutex := 83, tPIMutex := 85, tPI32 := 87, tUP := 89, tNoCopy := 65, tU32 := 66 }
theorem Yba.muLib : Go.Conc.Locks.MuLib Yba.prog Yba.muLink :=
  ⟨Yba.func24, Yba.func25, Yba.func28, Yba.func29, Yba.func32, Yba.func34, Yba.func35, Yba.func37, Yba.func33, Yba.func38, Yba.underlying68, Yba.runUnderlying68, Yba.sizeOf68, Yba.isAgg68, Yba.zeroValue68, Yba.underlying70, Yba.runUnderlying70, Yba.sizeOf70, Yba.isAgg70, Yba.zeroValue70, Yba.underlying83, Yba.runUnderlying83, Yba.sizeOf83, Yba.isAgg83, Yba.zeroValue83, Yba.underlying85, Yba.runUnderlying85, Yba.sizeOf85, Yba.isAgg85, Yba.zeroValue85, Yba.underlying87, Yba.runUnderlying87, Yba.sizeOf87, Yba.isAgg87, Yba.zeroValue87, Yba.underlying89, Yba.runUnderlying89, Yba.sizeOf89, Yba.isAgg89, Yba.zeroValue89, Yba.underlying65, Yba.runUnderlying65, Yba.sizeOf65, Yba.isAgg65, Yba.zeroValue65, Yba.underlying21, Yba.runUnderlying21, Yba.sizeOf21, Yba.isAgg21, Yba.zeroValue21, (by kernel_rfl)⟩
end Go.Proofs
