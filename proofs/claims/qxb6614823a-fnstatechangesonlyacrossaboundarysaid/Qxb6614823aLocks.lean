/-
  The numbers under which this dump holds sync.Mutex's functions and types, and that it holds them (Derived/Conc/MuLib.lean). Checked by the kernel as it is compiled.
-/
import Derived.Test.Qxb6614823aProg
import Derived.Conc.MuLib
import Derived.KernelRfl
namespace Go.Proofs.Qxb6614823a
abbrev muLink : Go.Conc.Locks.MuLink := { lock := 15, unlock := 16, ilock := 19, iunlock := 20, lockSlow := 25, unlockSlow := 28, disable := 21, enable := 23, acquire := 24, relMerge := 26, cas32 := 22, add32 := 27, tMutex := 46, tIMutex := 44, tPMutex := 71, tPIMutex := 72, tPI32 := 74, tUP := 76, tNoCopy := 41, tU32 := 42 }
theorem muLib : Go.Conc.Locks.MuLib Try.prog muLink :=
  ⟨Try.func15, Try.func16, Try.func19, Try.func20, Try.func21, Try.func23, Try.func24, Try.func26, Try.func22, Try.func27, Try.underlying44, Try.runUnderlying44, Try.sizeOf44, Try.isAgg44, Try.zeroValue44, Try.underlying46, Try.runUnderlying46, Try.sizeOf46, Try.isAgg46, Try.zeroValue46, Try.underlying71, Try.runUnderlying71, Try.sizeOf71, Try.isAgg71, Try.zeroValue71, Try.underlying72, Try.runUnderlying72, Try.sizeOf72, Try.isAgg72, Try.zeroValue72, Try.underlying74, Try.runUnderlying74, Try.sizeOf74, Try.isAgg74, Try.zeroValue74, Try.underlying76, Try.runUnderlying76, Try.sizeOf76, Try.isAgg76, Try.zeroValue76, Try.underlying41, Try.runUnderlying41, Try.sizeOf41, Try.isAgg41, Try.zeroValue41, Try.underlying21, Try.runUnderlying21, Try.sizeOf21, Try.isAgg21, Try.zeroValue21, (by kernel_rfl)⟩
end Go.Proofs.Qxb6614823a
