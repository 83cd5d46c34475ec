/-
  The numbers under which this dump holds sync.Mutex's functions and types, and that it holds them.
-/
import Derived.Test.Qxb6612990aProg
import Derived.Conc.MuLib
import Derived.Conc.MuData
import Derived.KernelRfl
namespace Go.Proofs.Qxb6612990a
abbrev muLink : Go.Conc.Locks.MuLink := { lock := 28, unlock := 29, ilock := 33, iunlock := 34, lockSlow := 40, unlockSlow := 43, disable := 36, enable := 38, acquire := 39, relMerge := 41, cas32 := 37, add32 := 42, tMutex := 65, tIMutex := 63, tPMutex := 86, tPIMutex := 88, tPI32 := 90, tUP := 92, tNoCopy := 60, tU32 := 61 }
theorem muLib : Go.Conc.Locks.MuLib Try.prog muLink :=
  ⟨Try.func28, Try.func29, Try.func33, Try.func34, Try.func36, Try.func38, Try.func39, Try.func41, Try.func37, Try.func42, Try.underlying63, Try.runUnderlying63, Try.sizeOf63, Try.isAgg63, Try.zeroValue63, Try.underlying65, Try.runUnderlying65, Try.sizeOf65, Try.isAgg65, Try.zeroValue65, Try.underlying86, Try.runUnderlying86, Try.sizeOf86, Try.isAgg86, Try.zeroValue86, Try.underlying88, Try.runUnderlying88, Try.sizeOf88, Try.isAgg88, Try.zeroValue88, Try.underlying90, Try.runUnderlying90, Try.sizeOf90, Try.isAgg90, Try.zeroValue90, Try.underlying92, Try.runUnderlying92, Try.sizeOf92, Try.isAgg92, Try.zeroValue92, Try.underlying60, Try.runUnderlying60, Try.sizeOf60, Try.isAgg60, Try.zeroValue60, Try.underlying21, Try.runUnderlying21, Try.sizeOf21, Try.isAgg21, Try.zeroValue21, (by kernel_rfl)⟩
end Go.Proofs.Qxb6612990a
