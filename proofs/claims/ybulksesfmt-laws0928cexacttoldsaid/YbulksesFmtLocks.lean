/- The numbers under which this dump holds sync.Mutex's functions and types, and that it holds them (after the worked text of the toy 'stats'). -/
import Derived.Test.YbulksesFmtProg
import Derived.Conc.RwLib
import Derived.Conc.MuData
import Derived.KernelRfl
namespace Go.Proofs.YbulksesFmt
abbrev muLink : Go.Conc.Locks.MuLink := { lock := 20, unlock := 21, ilock := 29, iunlock := 30, lockSlow := 39, unlockSlow := 42, disable := 35, enable := 37, acquire := 38, relMerge := 40, cas32 := 36, add32 := 41, tMutex := 60, tIMutex := 58, tPMutex := 78, tPIMutex := 96, tPI32 := 98, tUP := 100, tNoCopy := 55, tU32 := 56 }
theorem muLib : Go.Conc.Locks.MuLib Ybaf.prog muLink :=
  ⟨Ybaf.func20, Ybaf.func21, Ybaf.func29, Ybaf.func30, Ybaf.func35, Ybaf.func37, Ybaf.func38, Ybaf.func40, Ybaf.func36, Ybaf.func41, Ybaf.underlying58, Ybaf.runUnderlying58, Ybaf.sizeOf58, Ybaf.isAgg58, Ybaf.zeroValue58, Ybaf.underlying60, Ybaf.runUnderlying60, Ybaf.sizeOf60, Ybaf.isAgg60, Ybaf.zeroValue60, Ybaf.underlying78, Ybaf.runUnderlying78, Ybaf.sizeOf78, Ybaf.isAgg78, Ybaf.zeroValue78, Ybaf.underlying96, Ybaf.runUnderlying96, Ybaf.sizeOf96, Ybaf.isAgg96, Ybaf.zeroValue96, Ybaf.underlying98, Ybaf.runUnderlying98, Ybaf.sizeOf98, Ybaf.isAgg98, Ybaf.zeroValue98, Ybaf.underlying100, Ybaf.runUnderlying100, Ybaf.sizeOf100, Ybaf.isAgg100, Ybaf.zeroValue100, Ybaf.underlying55, Ybaf.runUnderlying55, Ybaf.sizeOf55, Ybaf.isAgg55, Ybaf.zeroValue55, Ybaf.underlying21, Ybaf.runUnderlying21, Ybaf.sizeOf21, Ybaf.isAgg21, Ybaf.zeroValue21, (by kernel_rfl)⟩
end Go.Proofs.YbulksesFmt
