/-
  The numbers under which this dump holds sync.Mutex's functions and types, and that it holds them (Derived/Conc/MuLib.lean). Typed by hand after the guide's 6u.
-/
import Derived.Test.Qxb6616645aProg
import Derived.Conc.MuLib
import Derived.KernelRfl
namespace Go.Proofs.Qxb6616645a
abbrev Try.muLink : Go.Conc.Locks.MuLink := { lock := 14, unlock := 15, ilock := 17, iunlock := 18, lockSlow := 26, unlockSlow := 29, disable := 22, enable := 24, acquire := 25, relMerge := 27, cas32 := 23, add32 := 28, tMutex := 38, tIMutex := 36, tPMutex := 46, tPIMutex := 50, tPI32 := 52, tUP := 54, tNoCopy := 33, tU32 := 34 }
theorem Try.muLib : Go.Conc.Locks.MuLib Try.prog Try.muLink :=
  ⟨Try.func14, Try.func15, Try.func17, Try.func18, Try.func22, Try.func24, Try.func25, Try.func27, Try.func23, Try.func28, Try.underlying36, Try.runUnderlying36, Try.sizeOf36, Try.isAgg36, Try.zeroValue36, Try.underlying38, Try.runUnderlying38, Try.sizeOf38, Try.isAgg38, Try.zeroValue38, Try.underlying46, Try.runUnderlying46, Try.sizeOf46, Try.isAgg46, Try.zeroValue46, Try.underlying50, Try.runUnderlying50, Try.sizeOf50, Try.isAgg50, Try.zeroValue50, Try.underlying52, Try.runUnderlying52, Try.sizeOf52, Try.isAgg52, Try.zeroValue52, Try.underlying54, Try.runUnderlying54, Try.sizeOf54, Try.isAgg54, Try.zeroValue54, Try.underlying33, Try.runUnderlying33, Try.sizeOf33, Try.isAgg33, Try.zeroValue33, Try.underlying21, Try.runUnderlying21, Try.sizeOf21, Try.isAgg21, Try.zeroValue21, (by kernel_rfl)⟩
end Go.Proofs.Qxb6616645a
