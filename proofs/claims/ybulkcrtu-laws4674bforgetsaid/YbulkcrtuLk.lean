import Derived.Test.YbulkcrtuRows
import Derived.Conc.MuLib
import Derived.Conc.MuLone
import Derived.KernelRfl
namespace Go.Proofs.Ybulkcrtu

abbrev muLink : Go.Conc.Locks.MuLink := { lock := 30, unlock := 33, ilock := 42, iunlock := 47, lockSlow := 56, unlockSlow := 63, disable := 52, enable := 54, acquire := 55, relMerge := 61, cas32 := 53, add32 := 62, tMutex := 94, tIMutex := 92, tPMutex := 154, tPIMutex := 167, tPI32 := 169, tUP := 171, tNoCopy := 90, tU32 := 69 }
theorem muLib : Go.Conc.Locks.MuLib Yba.prog muLink :=
  ⟨Yba.func30, Yba.func33, Yba.func42, Yba.func47, Yba.func52, Yba.func54, Yba.func55, Yba.func61, Yba.func53, Yba.func62, Yba.underlying92, Yba.runUnderlying92, Yba.sizeOf92, Yba.isAgg92, Yba.zeroValue92, Yba.underlying94, Yba.runUnderlying94, Yba.sizeOf94, Yba.isAgg94, Yba.zeroValue94, Yba.underlying154, Yba.runUnderlying154, Yba.sizeOf154, Yba.isAgg154, Yba.zeroValue154, Yba.underlying167, Yba.runUnderlying167, Yba.sizeOf167, Yba.isAgg167, Yba.zeroValue167, Yba.underlying169, Yba.runUnderlying169, Yba.sizeOf169, Yba.isAgg169, Yba.zeroValue169, Yba.underlying171, Yba.runUnderlying171, Yba.sizeOf171, Yba.isAgg171, Yba.zeroValue171, Yba.underlying90, Yba.runUnderlying90, Yba.sizeOf90, Yba.isAgg90, Yba.zeroValue90, Yba.underlying21, Yba.runUnderlying21, Yba.sizeOf21, Yba.isAgg21, Yba.zeroValue21, (by kernel_rfl)⟩

end Go.Proofs.Ybulkcrtu
