/-
  The numbers under which this dump holds sync.Mutex. (The link as toys/stats has it, turned to this seat.)
-/
import Derived.Test.YtojadhcbjcpifaaProg
import Derived.Conc.MuLone
import Derived.KernelRfl
namespace Go.Proofs
abbrev Try.muLink : Go.Conc.Locks.MuLink := { lock := 29, unlock := 31, ilock := 35, iunlock := 38, lockSlow := 44, unlockSlow := 48, disable := 40, enable := 42, acquire := 43, relMerge := 46, cas32 := 41, add32 := 47, tMutex := 69, tIMutex := 67, tPMutex := 73, tPIMutex := 78, tPI32 := 80, tUP := 82, tNoCopy := 65, tU32 := 22 }
theorem Try.muLib : Go.Conc.Locks.MuLib Try.prog Try.muLink :=
  ⟨Try.func29, Try.func31, Try.func35, Try.func38, Try.func40, Try.func42, Try.func43, Try.func46, Try.func41, Try.func47, Try.underlying67, Try.runUnderlying67, Try.sizeOf67, Try.isAgg67, Try.zeroValue67, Try.underlying69, Try.runUnderlying69, Try.sizeOf69, Try.isAgg69, Try.zeroValue69, Try.underlying73, Try.runUnderlying73, Try.sizeOf73, Try.isAgg73, Try.zeroValue73, Try.underlying78, Try.runUnderlying78, Try.sizeOf78, Try.isAgg78, Try.zeroValue78, Try.underlying80, Try.runUnderlying80, Try.sizeOf80, Try.isAgg80, Try.zeroValue80, Try.underlying82, Try.runUnderlying82, Try.sizeOf82, Try.isAgg82, Try.zeroValue82, Try.underlying65, Try.runUnderlying65, Try.sizeOf65, Try.isAgg65, Try.zeroValue65, Try.underlying21, Try.runUnderlying21, Try.sizeOf21, Try.isAgg21, Try.zeroValue21, (by kernel_rfl)⟩
end Go.Proofs
