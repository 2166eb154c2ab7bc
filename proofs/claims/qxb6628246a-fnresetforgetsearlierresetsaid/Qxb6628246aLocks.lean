/-
  The numbers under which this dump holds sync.Mutex's functions and types, and that it holds them.
-/
import Derived.Test.Qxb6628246aRows
import Derived.Conc.RwLib
import Derived.Conc.MuLone
import Derived.KernelRfl
namespace Go.Proofs.Qxb6628246a
abbrev Lk.muLink : Go.Conc.Locks.MuLink := { lock := 22, unlock := 23, ilock := 36, iunlock := 37, lockSlow := 47, unlockSlow := 50, disable := 43, enable := 45, acquire := 46, relMerge := 48, cas32 := 44, add32 := 49, tMutex := 58, tIMutex := 56, tPMutex := 77, tPIMutex := 84, tPI32 := 86, tUP := 88, tNoCopy := 53, tU32 := 54 }
theorem Lk.muLib : Go.Conc.Locks.MuLib Try.prog Lk.muLink :=
  ⟨Try.func22, Try.func23, Try.func36, Try.func37, Try.func43, Try.func45, Try.func46, Try.func48, Try.func44, Try.func49, Try.underlying56, Try.runUnderlying56, Try.sizeOf56, Try.isAgg56, Try.zeroValue56, Try.underlying58, Try.runUnderlying58, Try.sizeOf58, Try.isAgg58, Try.zeroValue58, Try.underlying77, Try.runUnderlying77, Try.sizeOf77, Try.isAgg77, Try.zeroValue77, Try.underlying84, Try.runUnderlying84, Try.sizeOf84, Try.isAgg84, Try.zeroValue84, Try.underlying86, Try.runUnderlying86, Try.sizeOf86, Try.isAgg86, Try.zeroValue86, Try.underlying88, Try.runUnderlying88, Try.sizeOf88, Try.isAgg88, Try.zeroValue88, Try.underlying53, Try.runUnderlying53, Try.sizeOf53, Try.isAgg53, Try.zeroValue53, Try.underlying21, Try.runUnderlying21, Try.sizeOf21, Try.isAgg21, Try.zeroValue21, (by kernel_rfl)⟩
end Go.Proofs.Qxb6628246a
