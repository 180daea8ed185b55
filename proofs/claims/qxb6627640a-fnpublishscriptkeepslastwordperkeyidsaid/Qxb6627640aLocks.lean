import Derived.Test.Qxb6627640aProg
import Derived.Conc.RwLib
import Derived.Conc.MuData
import Derived.KernelRfl
namespace Go.Proofs
abbrev Try.muLink : Go.Conc.Locks.MuLink := { lock := 13, unlock := 14, ilock := 15, iunlock := 16, lockSlow := 21, unlockSlow := 24, disable := 17, enable := 19, acquire := 20, relMerge := 22, cas32 := 18, add32 := 23, tMutex := 43, tIMutex := 41, tPMutex := 50, tPIMutex := 51, tPI32 := 53, tUP := 55, tNoCopy := 38, tU32 := 39 }
theorem Try.muLib : Go.Conc.Locks.MuLib Try.prog Try.muLink :=
  ⟨Try.func13, Try.func14, Try.func15, Try.func16, Try.func17, Try.func19, Try.func20, Try.func22, Try.func18, Try.func23, Try.underlying41, Try.runUnderlying41, Try.sizeOf41, Try.isAgg41, Try.zeroValue41, Try.underlying43, Try.runUnderlying43, Try.sizeOf43, Try.isAgg43, Try.zeroValue43, Try.underlying50, Try.runUnderlying50, Try.sizeOf50, Try.isAgg50, Try.zeroValue50, Try.underlying51, Try.runUnderlying51, Try.sizeOf51, Try.isAgg51, Try.zeroValue51, Try.underlying53, Try.runUnderlying53, Try.sizeOf53, Try.isAgg53, Try.zeroValue53, Try.underlying55, Try.runUnderlying55, Try.sizeOf55, Try.isAgg55, Try.zeroValue55, Try.underlying38, Try.runUnderlying38, Try.sizeOf38, Try.isAgg38, Try.zeroValue38, Try.underlying21, Try.runUnderlying21, Try.sizeOf21, Try.isAgg21, Try.zeroValue21, (by kernel_rfl)⟩
end Go.Proofs
