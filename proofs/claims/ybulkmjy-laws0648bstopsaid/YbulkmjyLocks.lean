import Derived.Test.YbulkmjyProg
import Derived.Conc.MuLib
import Derived.KernelRfl
namespace Go.Proofs.Ybulkmjy
abbrev Yba.muLink : Go.Conc.Locks.MuLink := { lock := 5, unlock := 6, ilock := 7, iunlock := 8, lockSlow := 13, unlockSlow := 16, disable := 9, enable := 11, acquire := 12, relMerge := 14, cas32 := 10, add32 := 15, tMutex := 31, tIMutex := 29, tPMutex := 106, tPIMutex := 107, tPI32 := 109, tUP := 111, tNoCopy := 26, tU32 := 27 }
theorem Yba.muLib : Go.Conc.Locks.MuLib Yba.prog Yba.muLink :=
  ⟨Yba.func5, Yba.func6, Yba.func7, Yba.func8, Yba.func9, Yba.func11, Yba.func12, Yba.func14, Yba.func10, Yba.func15, Yba.underlying29, Yba.runUnderlying29, Yba.sizeOf29, Yba.isAgg29, Yba.zeroValue29, Yba.underlying31, Yba.runUnderlying31, Yba.sizeOf31, Yba.isAgg31, Yba.zeroValue31, Yba.underlying106, Yba.runUnderlying106, Yba.sizeOf106, Yba.isAgg106, Yba.zeroValue106, Yba.underlying107, Yba.runUnderlying107, Yba.sizeOf107, Yba.isAgg107, Yba.zeroValue107, Yba.underlying109, Yba.runUnderlying109, Yba.sizeOf109, Yba.isAgg109, Yba.zeroValue109, Yba.underlying111, Yba.runUnderlying111, Yba.sizeOf111, Yba.isAgg111, Yba.zeroValue111, Yba.underlying26, Yba.runUnderlying26, Yba.sizeOf26, Yba.isAgg26, Yba.zeroValue26, Yba.underlying21, Yba.runUnderlying21, Yba.sizeOf21, Yba.isAgg21, Yba.zeroValue21, (by kernel_rfl)⟩
end Go.Proofs.Ybulkmjy
