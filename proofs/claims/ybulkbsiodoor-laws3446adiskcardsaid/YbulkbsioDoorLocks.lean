/-
  The numbers under which this dump holds the reader's side of sync.RWMutex, and that it holds it (the library's RwLib). Typed after the worked RwboxLocks; checked by the kernel as it is compiled.
-/
import Derived.Test.YbulkbsioDoorProg
import Derived.Conc.RwLib
import Derived.Conc.MuData
import Derived.KernelRfl
namespace Go.Proofs
abbrev Ybad.rwLink : Go.Conc.Locks.RwLink := { lock := 0, unlock := 0, ilock := 0, iunlock := 0, lockSlow := 0, unlockSlow := 0, disable := 10, enable := 13, acquire := 14, relMerge := 15, cas32 := 0, add32 := 17, tMutex := 36, tIMutex := 34, tPMutex := 94, tPIMutex := 0, tPI32 := 101, tUP := 47, tNoCopy := 31, tU32 := 32, rlock := 7, runlock := 8, wlock := 0, wunlock := 0, i32add := 11, raceRead := 9, release := 0, rUnlockSlow := 16, semacqR := 12, semacqW := 0, semrel := 19, sfatal := 18, tRW := 44, tPRW := 92, tAI32 := 42, tPAI32 := 99, tPU32 := 97, tANoCopy := 40 }
theorem Ybad.rwCore : Go.Conc.Locks.RwCore Ybad.prog Ybad.rwLink :=
  ⟨Ybad.func11, Ybad.func9, Ybad.func10, Ybad.func13, Ybad.func14, Ybad.func15, Ybad.func17, Ybad.underlying44, Ybad.runUnderlying44, Ybad.sizeOf44, Ybad.isAgg44, Ybad.zeroValue44, Ybad.underlying42, Ybad.runUnderlying42, Ybad.sizeOf42, Ybad.isAgg42, Ybad.zeroValue42, Ybad.underlying92, Ybad.runUnderlying92, Ybad.sizeOf92, Ybad.isAgg92, Ybad.zeroValue92, Ybad.underlying99, Ybad.runUnderlying99, Ybad.sizeOf99, Ybad.isAgg99, Ybad.zeroValue99, Ybad.underlying97, Ybad.runUnderlying97, Ybad.sizeOf97, Ybad.isAgg97, Ybad.zeroValue97, Ybad.underlying40, Ybad.runUnderlying40, Ybad.sizeOf40, Ybad.isAgg40, Ybad.zeroValue40, Ybad.underlying32, Ybad.runUnderlying32, Ybad.sizeOf32, Ybad.isAgg32, Ybad.zeroValue32, Ybad.underlying36, Ybad.runUnderlying36, Ybad.sizeOf36, Ybad.isAgg36, Ybad.zeroValue36, Ybad.underlying94, Ybad.runUnderlying94, Ybad.sizeOf94, Ybad.isAgg94, Ybad.zeroValue94, Ybad.underlying101, Ybad.runUnderlying101, Ybad.sizeOf101, Ybad.isAgg101, Ybad.zeroValue101, Ybad.underlying47, Ybad.runUnderlying47, Ybad.sizeOf47, Ybad.isAgg47, Ybad.zeroValue47, Ybad.underlying21, Ybad.runUnderlying21, Ybad.sizeOf21, Ybad.isAgg21, Ybad.zeroValue21, (by kernel_rfl), (by kernel_rfl)⟩
theorem Ybad.rwRLib : Go.Conc.Locks.RwRLib Ybad.prog Ybad.rwLink := ⟨Ybad.rwCore, Ybad.func7, Ybad.func8⟩
end Go.Proofs
