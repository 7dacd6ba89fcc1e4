/-
  The numbers under which this dump holds the library's locks' functions and types: typed by hand after the tool's make (the tool does not lie in this kit).
-/
import Derived.Test.YbulkdkjiProg
import Derived.Conc.RwLone
import Derived.KernelRfl
namespace Go.Proofs
abbrev Yba.rwLink : Go.Conc.Locks.RwLink := { lock := 0, unlock := 33, ilock := 0, iunlock := 54, lockSlow := 0, unlockSlow := 60, disable := 29, enable := 31, acquire := 34, relMerge := 36, cas32 := 53, add32 := 55, tMutex := 41, tIMutex := 39, tPMutex := 101, tPIMutex := 127, tPI32 := 121, tUP := 100, tNoCopy := 37, tU32 := 31, rlock := 25, runlock := 26, wlock := 0, wunlock := 12, i32add := 37, raceRead := 28, release := 35, rUnlockSlow := 46, semacqR := 45, semacqW := 0, semrel := 39, sfatal := 38, tRW := 46, tPRW := 98, tAI32 := 44, tPAI32 := 119, tPU32 := 103, tANoCopy := 42 }
theorem Yba.rwCore : Go.Conc.Locks.RwCore Yba.prog Yba.rwLink :=
  ⟨Yba.func37, Yba.func28, Yba.func29, Yba.func31, Yba.func34, Yba.func36, Yba.func55, Yba.underlying46, Yba.runUnderlying46, Yba.sizeOf46, Yba.isAgg46, Yba.zeroValue46, Yba.underlying44, Yba.runUnderlying44, Yba.sizeOf44, Yba.isAgg44, Yba.zeroValue44, Yba.underlying98, Yba.runUnderlying98, Yba.sizeOf98, Yba.isAgg98, Yba.zeroValue98, Yba.underlying119, Yba.runUnderlying119, Yba.sizeOf119, Yba.isAgg119, Yba.zeroValue119, Yba.underlying103, Yba.runUnderlying103, Yba.sizeOf103, Yba.isAgg103, Yba.zeroValue103, Yba.underlying42, Yba.runUnderlying42, Yba.sizeOf42, Yba.isAgg42, Yba.zeroValue42, Yba.underlying31, Yba.runUnderlying31, Yba.sizeOf31, Yba.isAgg31, Yba.zeroValue31, Yba.underlying41, Yba.runUnderlying41, Yba.sizeOf41, Yba.isAgg41, Yba.zeroValue41, Yba.underlying101, Yba.runUnderlying101, Yba.sizeOf101, Yba.isAgg101, Yba.zeroValue101, Yba.underlying121, Yba.runUnderlying121, Yba.sizeOf121, Yba.isAgg121, Yba.zeroValue121, Yba.underlying100, Yba.runUnderlying100, Yba.sizeOf100, Yba.isAgg100, Yba.zeroValue100, Yba.underlying21, Yba.runUnderlying21, Yba.sizeOf21, Yba.isAgg21, Yba.zeroValue21, (by kernel_rfl), (by kernel_rfl)⟩
theorem Yba.rwRLib : Go.Conc.Locks.RwRLib Yba.prog Yba.rwLink := ⟨Yba.rwCore, Yba.func25, Yba.func26⟩
theorem Yba.f_iunlock : Yba.prog.funcs[54]? = some (Go.Conc.Locks.iunlockFn Yba.rwLink.toMuLink) := Yba.func54
theorem Yba.f_unlock : Yba.prog.funcs[33]? = some (Go.Conc.Locks.unlockFn Yba.rwLink.toMuLink) := Yba.func33
theorem Yba.f_wunlock : Yba.prog.funcs[12]? = some (Go.Conc.Locks.wunlockFn Yba.rwLink) := Yba.func12
theorem Yba.f_release : Yba.prog.funcs[35]? = some (Go.Conc.Locks.releaseFn Yba.rwLink) := Yba.func35
theorem Yba.f_cas32 : Yba.prog.funcs[53]? = some (Go.Conc.Locks.cas32Fn Yba.rwLink.toMuLink) := Yba.func53
end Go.Proofs
