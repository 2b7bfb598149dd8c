/-
  THE NUMBERS UNDER WHICH THIS DUMP HOLDS sync.Mutex's FUNCTIONS AND TYPES, AND THAT IT HOLDS THEM. Typed by hand (the printer is not in this box); the kernel checks every number.
-/
import Derived.Test.YbulkxlmProg
import Derived.Conc.MuLone
import Derived.KernelRfl
namespace Go.Proofs
abbrev Yba.muLink : Go.Conc.Locks.MuLink := { lock := 5, unlock := 6, ilock := 7, iunlock := 8, lockSlow := 13, unlockSlow := 16, disable := 9, enable := 11, acquire := 12, relMerge := 14, cas32 := 10, add32 := 15, tMutex := 46, tIMutex := 44, tPMutex := 56, tPIMutex := 57, tPI32 := 59, tUP := 61, tNoCopy := 42, tU32 := 33 }
theorem Yba.muLib : Go.Conc.Locks.MuLib Yba.prog Yba.muLink :=
  ⟨Yba.func5, Yba.func6, Yba.func7, Yba.func8, Yba.func9, Yba.func11, Yba.func12, Yba.func14, Yba.func10, Yba.func15, Yba.underlying44, Yba.runUnderlying44, Yba.sizeOf44, Yba.isAgg44, Yba.zeroValue44, Yba.underlying46, Yba.runUnderlying46, Yba.sizeOf46, Yba.isAgg46, Yba.zeroValue46, Yba.underlying56, Yba.runUnderlying56, Yba.sizeOf56, Yba.isAgg56, Yba.zeroValue56, Yba.underlying57, Yba.runUnderlying57, Yba.sizeOf57, Yba.isAgg57, Yba.zeroValue57, Yba.underlying59, Yba.runUnderlying59, Yba.sizeOf59, Yba.isAgg59, Yba.zeroValue59, Yba.underlying61, Yba.runUnderlying61, Yba.sizeOf61, Yba.isAgg61, Yba.zeroValue61, Yba.underlying42, Yba.runUnderlying42, Yba.sizeOf42, Yba.isAgg42, Yba.zeroValue42, Yba.underlying21, Yba.runUnderlying21, Yba.sizeOf21, Yba.isAgg21, Yba.zeroValue21, (by kernel_rfl)⟩
end Go.Proofs
