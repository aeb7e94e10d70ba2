/-
  The numbers under which this dump holds the library's locks' functions and types, and that it holds them (Derived/Conc/MuLib.lean). Typed by hand after the worked StatsLocks.lean; checked by the kernel as it is compiled.
-/
import Derived.Test.YbulkcnnyProg
import Derived.Conc.MuLib
import Derived.KernelRfl
namespace Go.Proofs
abbrev Yba.muLink : Go.Conc.Locks.MuLink := { lock := 8, unlock := 9, ilock := 11, iunlock := 12, lockSlow := 17, unlockSlow := 20, disable := 13, enable := 15, acquire := 16, relMerge := 18, cas32 := 14, add32 := 19, tMutex := 34, tIMutex := 32, tPMutex := 63, tPIMutex := 64, tPI32 := 66, tUP := 68, tNoCopy := 29, tU32 := 30 }
theorem Yba.muLib : Go.Conc.Locks.MuLib Yba.prog Yba.muLink :=
  ⟨Yba.func8, Yba.func9, Yba.func11, Yba.func12, Yba.func13, Yba.func15, Yba.func16, Yba.func18, Yba.func14, Yba.func19, Yba.underlying32, Yba.runUnderlying32, Yba.sizeOf32, Yba.isAgg32, Yba.zeroValue32, Yba.underlying34, Yba.runUnderlying34, Yba.sizeOf34, Yba.isAgg34, Yba.zeroValue34, Yba.underlying63, Yba.runUnderlying63, Yba.sizeOf63, Yba.isAgg63, Yba.zeroValue63, Yba.underlying64, Yba.runUnderlying64, Yba.sizeOf64, Yba.isAgg64, Yba.zeroValue64, Yba.underlying66, Yba.runUnderlying66, Yba.sizeOf66, Yba.isAgg66, Yba.zeroValue66, Yba.underlying68, Yba.runUnderlying68, Yba.sizeOf68, Yba.isAgg68, Yba.zeroValue68, Yba.underlying29, Yba.runUnderlying29, Yba.sizeOf29, Yba.isAgg29, Yba.zeroValue29, Yba.underlying21, Yba.runUnderlying21, Yba.sizeOf21, Yba.isAgg21, Yba.zeroValue21, (by kernel_rfl)⟩
end Go.Proofs
