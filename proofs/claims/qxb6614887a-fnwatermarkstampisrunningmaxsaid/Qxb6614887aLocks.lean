/-
  The numbers under which this dump holds sync.Mutex's functions and types, and that it holds them (Derived/Conc/MuLib.lean). Checked by the kernel as it is compiled.
-/
import Derived.Test.Qxb6614887aProg
import Derived.Conc.MuLib
import Derived.KernelRfl
namespace Go.Proofs.Qxb6614887a
abbrev muLink : Go.Conc.Locks.MuLink := { lock := 15, unlock := 16, ilock := 20, iunlock := 21, lockSlow := 27, unlockSlow := 30, disable := 23, enable := 25, acquire := 26, relMerge := 28, cas32 := 24, add32 := 29, tMutex := 46, tIMutex := 44, tPMutex := 63, tPIMutex := 70, tPI32 := 72, tUP := 74, tNoCopy := 41, tU32 := 42 }
theorem muLib : Go.Conc.Locks.MuLib Try.prog muLink :=
  ⟨Try.func15, Try.func16, Try.func20, Try.func21, Try.func23, Try.func25, Try.func26, Try.func28, Try.func24, Try.func29, Try.underlying44, Try.runUnderlying44, Try.sizeOf44, Try.isAgg44, Try.zeroValue44, Try.underlying46, Try.runUnderlying46, Try.sizeOf46, Try.isAgg46, Try.zeroValue46, Try.underlying63, Try.runUnderlying63, Try.sizeOf63, Try.isAgg63, Try.zeroValue63, Try.underlying70, Try.runUnderlying70, Try.sizeOf70, Try.isAgg70, Try.zeroValue70, Try.underlying72, Try.runUnderlying72, Try.sizeOf72, Try.isAgg72, Try.zeroValue72, Try.underlying74, Try.runUnderlying74, Try.sizeOf74, Try.isAgg74, Try.zeroValue74, Try.underlying41, Try.runUnderlying41, Try.sizeOf41, Try.isAgg41, Try.zeroValue41, Try.underlying21, Try.runUnderlying21, Try.sizeOf21, Try.isAgg21, Try.zeroValue21, (by kernel_rfl)⟩
end Go.Proofs.Qxb6614887a
