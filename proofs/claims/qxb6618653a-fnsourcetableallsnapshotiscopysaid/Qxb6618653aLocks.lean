import Derived.Test.Qxb6618653aProg
import Derived.Conc.MuLib
import Derived.KernelRfl
/-! The numbers under which this dump holds the library's lock, and that it holds it. -/
namespace Go.Proofs.Qxb6618653a
abbrev Try.muLink : Go.Conc.Locks.MuLink := { lock := 16, unlock := 17, ilock := 20, iunlock := 21, lockSlow := 26, unlockSlow := 29, disable := 22, enable := 24, acquire := 25, relMerge := 27, cas32 := 23, add32 := 28, tMutex := 44, tIMutex := 42, tPMutex := 56, tPIMutex := 57, tPI32 := 59, tUP := 61, tNoCopy := 39, tU32 := 40 }
theorem Try.muLib : Go.Conc.Locks.MuLib Try.prog Try.muLink :=
  ⟨Try.func16, Try.func17, Try.func20, Try.func21, Try.func22, Try.func24, Try.func25, Try.func27, Try.func23, Try.func28, Try.underlying42, Try.runUnderlying42, Try.sizeOf42, Try.isAgg42, Try.zeroValue42, Try.underlying44, Try.runUnderlying44, Try.sizeOf44, Try.isAgg44, Try.zeroValue44, Try.underlying56, Try.runUnderlying56, Try.sizeOf56, Try.isAgg56, Try.zeroValue56, Try.underlying57, Try.runUnderlying57, Try.sizeOf57, Try.isAgg57, Try.zeroValue57, Try.underlying59, Try.runUnderlying59, Try.sizeOf59, Try.isAgg59, Try.zeroValue59, Try.underlying61, Try.runUnderlying61, Try.sizeOf61, Try.isAgg61, Try.zeroValue61, Try.underlying39, Try.runUnderlying39, Try.sizeOf39, Try.isAgg39, Try.zeroValue39, Try.underlying21, Try.runUnderlying21, Try.sizeOf21, Try.isAgg21, Try.zeroValue21, by kernel_rfl⟩
end Go.Proofs.Qxb6618653a
