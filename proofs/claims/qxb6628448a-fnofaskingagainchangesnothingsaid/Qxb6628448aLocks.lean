import Derived.Test.Qxb6628448aRows
import Derived.Conc.MuLone
import Derived.KernelRfl
namespace Go.Proofs.Qxb6628448a

abbrev muLink : Go.Conc.Locks.MuLink := { lock := 8, unlock := 9, ilock := 10, iunlock := 11, lockSlow := 16, unlockSlow := 19, disable := 12, enable := 14, acquire := 15, relMerge := 17, cas32 := 13, add32 := 18, tMutex := 31, tIMutex := 29, tPMutex := 40, tPIMutex := 41, tPI32 := 43, tUP := 45, tNoCopy := 26, tU32 := 27 }
theorem muLib : Go.Conc.Locks.MuLib Try.prog muLink :=
  ⟨Try.func8, Try.func9, Try.func10, Try.func11, Try.func12, Try.func14, Try.func15, Try.func17, Try.func13, Try.func18, Try.underlying29, Try.runUnderlying29, Try.sizeOf29, Try.isAgg29, Try.zeroValue29, Try.underlying31, Try.runUnderlying31, Try.sizeOf31, Try.isAgg31, Try.zeroValue31, Try.underlying40, Try.runUnderlying40, Try.sizeOf40, Try.isAgg40, Try.zeroValue40, Try.underlying41, Try.runUnderlying41, Try.sizeOf41, Try.isAgg41, Try.zeroValue41, Try.underlying43, Try.runUnderlying43, Try.sizeOf43, Try.isAgg43, Try.zeroValue43, Try.underlying45, Try.runUnderlying45, Try.sizeOf45, Try.isAgg45, Try.zeroValue45, Try.underlying26, Try.runUnderlying26, Try.sizeOf26, Try.isAgg26, Try.zeroValue26, Try.underlying21, Try.runUnderlying21, Try.sizeOf21, Try.isAgg21, Try.zeroValue21, (by kernel_rfl)⟩
end Go.Proofs.Qxb6628448a
