/-
  The numbers under which this dump holds the library's lock's functions and types, and that it holds them. Checked by the kernel as it is compiled.
-/
import Derived.Test.YbulkcspiProg
import Derived.Conc.MuLib
import Derived.KernelRfl
namespace Go.Proofs
abbrev Yba.muLink : Go.Conc.Locks.MuLink := { lock := 54, unlock := 55, ilock := 61, iunlock := 62, lockSlow := 69, unlockSlow := 72, disable := 65, enable := 67, acquire := 68, relMerge := 70, cas32 := 66, add32 := 71, tMutex := 66, tIMutex := 64, tPMutex := 153, tPIMutex := 156, tPI32 := 158, tUP := 78, tNoCopy := 61, tU32 := 62 }
theorem Yba.muLib : Go.Conc.Locks.MuLib Yba.prog Yba.muLink :=
  ⟨Yba.func54, Yba.func55, Yba.func61, Yba.func62, Yba.func65, Yba.func67, Yba.func68, Yba.func70, Yba.func66, Yba.func71, Yba.underlying64, Yba.runUnderlying64, Yba.sizeOf64, Yba.isAgg64, Yba.zeroValue64, Yba.underlying66, Yba.runUnderlying66, Yba.sizeOf66, Yba.isAgg66, Yba.zeroValue66, Yba.underlying153, Yba.runUnderlying153, Yba.sizeOf153, Yba.isAgg153, Yba.zeroValue153, Yba.underlying156, Yba.runUnderlying156, Yba.sizeOf156, Yba.isAgg156, Yba.zeroValue156, Yba.underlying158, Yba.runUnderlying158, Yba.sizeOf158, Yba.isAgg158, Yba.zeroValue158, Yba.underlying78, Yba.runUnderlying78, Yba.sizeOf78, Yba.isAgg78, Yba.zeroValue78, Yba.underlying61, Yba.runUnderlying61, Yba.sizeOf61, Yba.isAgg61, Yba.zeroValue61, Yba.underlying21, Yba.runUnderlying21, Yba.sizeOf21, Yba.isAgg21, Yba.zeroValue21, (by kernel_rfl)⟩
end Go.Proofs
