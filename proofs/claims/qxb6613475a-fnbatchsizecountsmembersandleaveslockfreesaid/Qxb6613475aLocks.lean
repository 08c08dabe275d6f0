/-
  The numbers under which this dump holds the library's lock's functions and types, and that it holds them (Derived/Conc/MuLib.lean). Typed by hand off the dump; checked by the kernel as it is compiled.
-/
import Derived.Test.Qxb6613475aProg
import Derived.Conc.MuLib
import Derived.KernelRfl
namespace Go.Proofs.Qxb6613475a
abbrev muLink : Go.Conc.Locks.MuLink := { lock := 14, unlock := 15, ilock := 19, iunlock := 20, lockSlow := 26, unlockSlow := 29, disable := 22, enable := 24, acquire := 25, relMerge := 27, cas32 := 23, add32 := 28, tMutex := 44, tIMutex := 42, tPMutex := 62, tPIMutex := 64, tPI32 := 66, tUP := 68, tNoCopy := 39, tU32 := 40 }
theorem muLib : Go.Conc.Locks.MuLib Try.prog muLink :=
  ⟨Try.func14, Try.func15, Try.func19, Try.func20, Try.func22, Try.func24, Try.func25, Try.func27, Try.func23, Try.func28, Try.underlying42, Try.runUnderlying42, Try.sizeOf42, Try.isAgg42, Try.zeroValue42, Try.underlying44, Try.runUnderlying44, Try.sizeOf44, Try.isAgg44, Try.zeroValue44, Try.underlying62, Try.runUnderlying62, Try.sizeOf62, Try.isAgg62, Try.zeroValue62, Try.underlying64, Try.runUnderlying64, Try.sizeOf64, Try.isAgg64, Try.zeroValue64, Try.underlying66, Try.runUnderlying66, Try.sizeOf66, Try.isAgg66, Try.zeroValue66, Try.underlying68, Try.runUnderlying68, Try.sizeOf68, Try.isAgg68, Try.zeroValue68, Try.underlying39, Try.runUnderlying39, Try.sizeOf39, Try.isAgg39, Try.zeroValue39, Try.underlying21, Try.runUnderlying21, Try.sizeOf21, Try.isAgg21, Try.zeroValue21, (by kernel_rfl)⟩
end Go.Proofs.Qxb6613475a
