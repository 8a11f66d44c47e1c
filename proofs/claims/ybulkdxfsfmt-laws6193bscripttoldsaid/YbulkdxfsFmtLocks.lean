import Derived.Test.YbulkdxfsFmtProg
import Derived.Conc.MuLone
import Derived.Conc.MuData
import Derived.KernelRfl
namespace Go.Proofs
abbrev Ybaf.muLink : Go.Conc.Locks.MuLink := { lock := 8, unlock := 9, ilock := 11, iunlock := 12, lockSlow := 19, unlockSlow := 22, disable := 15, enable := 17, acquire := 18, relMerge := 20, cas32 := 16, add32 := 21, tMutex := 30, tIMutex := 28, tPMutex := 50, tPIMutex := 54, tPI32 := 56, tUP := 58, tNoCopy := 25, tU32 := 26 }
theorem Ybaf.muLib : Go.Conc.Locks.MuLib Ybaf.prog Ybaf.muLink :=
  ⟨Ybaf.func8, Ybaf.func9, Ybaf.func11, Ybaf.func12, Ybaf.func15, Ybaf.func17, Ybaf.func18, Ybaf.func20, Ybaf.func16, Ybaf.func21, Ybaf.underlying28, Ybaf.runUnderlying28, Ybaf.sizeOf28, Ybaf.isAgg28, Ybaf.zeroValue28, Ybaf.underlying30, Ybaf.runUnderlying30, Ybaf.sizeOf30, Ybaf.isAgg30, Ybaf.zeroValue30, Ybaf.underlying50, Ybaf.runUnderlying50, Ybaf.sizeOf50, Ybaf.isAgg50, Ybaf.zeroValue50, Ybaf.underlying54, Ybaf.runUnderlying54, Ybaf.sizeOf54, Ybaf.isAgg54, Ybaf.zeroValue54, Ybaf.underlying56, Ybaf.runUnderlying56, Ybaf.sizeOf56, Ybaf.isAgg56, Ybaf.zeroValue56, Ybaf.underlying58, Ybaf.runUnderlying58, Ybaf.sizeOf58, Ybaf.isAgg58, Ybaf.zeroValue58, Ybaf.underlying25, Ybaf.runUnderlying25, Ybaf.sizeOf25, Ybaf.isAgg25, Ybaf.zeroValue25, Ybaf.underlying21, Ybaf.runUnderlying21, Ybaf.sizeOf21, Ybaf.isAgg21, Ybaf.zeroValue21, (by kernel_rfl)⟩
end Go.Proofs
