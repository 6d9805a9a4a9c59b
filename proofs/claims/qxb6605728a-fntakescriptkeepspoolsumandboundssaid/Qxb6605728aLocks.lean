/-
  The numbers under which this dump holds sync.Mutex's functions and types, and that it holds them (Derived/Conc/MuLib.lean).
-/
import Derived.Test.Qxb6605728aProg
import Derived.Conc.MuLib
import Derived.KernelRfl
namespace Go.Proofs.Qxb6605728a
abbrev muLink : Go.Conc.Locks.MuLink := { lock := 21, unlock := 22, ilock := 23, iunlock := 24, lockSlow := 29, unlockSlow := 32, disable := 25, enable := 27, acquire := 28, relMerge := 30, cas32 := 26, add32 := 31, tMutex := 46, tIMutex := 44, tPMutex := 55, tPIMutex := 56, tPI32 := 58, tUP := 60, tNoCopy := 41, tU32 := 42 }
theorem muLib : Go.Conc.Locks.MuLib Try.prog muLink :=
  ⟨Try.func21, Try.func22, Try.func23, Try.func24, Try.func25, Try.func27, Try.func28, Try.func30, Try.func26, Try.func31, Try.underlying44, Try.runUnderlying44, Try.sizeOf44, Try.isAgg44, Try.zeroValue44, Try.underlying46, Try.runUnderlying46, Try.sizeOf46, Try.isAgg46, Try.zeroValue46, Try.underlying55, Try.runUnderlying55, Try.sizeOf55, Try.isAgg55, Try.zeroValue55, Try.underlying56, Try.runUnderlying56, Try.sizeOf56, Try.isAgg56, Try.zeroValue56, Try.underlying58, Try.runUnderlying58, Try.sizeOf58, Try.isAgg58, Try.zeroValue58, Try.underlying60, Try.runUnderlying60, Try.sizeOf60, Try.isAgg60, Try.zeroValue60, Try.underlying41, Try.runUnderlying41, Try.sizeOf41, Try.isAgg41, Try.zeroValue41, Try.underlying21, Try.runUnderlying21, Try.sizeOf21, Try.isAgg21, Try.zeroValue21, (by kernel_rfl)⟩
end Go.Proofs.Qxb6605728a
