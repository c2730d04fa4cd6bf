/-
  SEAT b6609104a: the numbers under which this dump holds package sync's Mutex, and that it holds it (by hand, after the kit's worked texts).
-/
import Derived.Test.Qxb6609104aProg
import Derived.Conc.MuLib
import Derived.KernelRfl
namespace Go.Proofs.Qxb6609104a
abbrev muLink : Go.Conc.Locks.MuLink := { lock := 33, unlock := 34, ilock := 37, iunlock := 38, lockSlow := 45, unlockSlow := 48, disable := 41, enable := 43, acquire := 44, relMerge := 46, cas32 := 42, add32 := 47, tMutex := 74, tIMutex := 72, tPMutex := 95, tPIMutex := 105, tPI32 := 107, tUP := 77, tNoCopy := 70, tU32 := 47 }
theorem muLib : Go.Conc.Locks.MuLib Try.prog muLink :=
  ⟨Try.func33, Try.func34, Try.func37, Try.func38, Try.func41, Try.func43, Try.func44, Try.func46, Try.func42, Try.func47, Try.underlying72, Try.runUnderlying72, Try.sizeOf72, Try.isAgg72, Try.zeroValue72, Try.underlying74, Try.runUnderlying74, Try.sizeOf74, Try.isAgg74, Try.zeroValue74, Try.underlying95, Try.runUnderlying95, Try.sizeOf95, Try.isAgg95, Try.zeroValue95, Try.underlying105, Try.runUnderlying105, Try.sizeOf105, Try.isAgg105, Try.zeroValue105, Try.underlying107, Try.runUnderlying107, Try.sizeOf107, Try.isAgg107, Try.zeroValue107, Try.underlying77, Try.runUnderlying77, Try.sizeOf77, Try.isAgg77, Try.zeroValue77, Try.underlying70, Try.runUnderlying70, Try.sizeOf70, Try.isAgg70, Try.zeroValue70, Try.underlying21, Try.runUnderlying21, Try.sizeOf21, Try.isAgg21, Try.zeroValue21, (by kernel_rfl)⟩
end Go.Proofs.Qxb6609104a
