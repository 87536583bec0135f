/- This dump holds sync.Mutex as the library's lock kit knows it. No conditions. -/
import Derived.Test.YtebjclmbacmilaaGreatDoorProg
import Derived.Conc.MuLone
import Derived.KernelRfl
namespace Go.Proofs.YtebjclmbacmilaaGreatDoor
abbrev muLink : Go.Conc.Locks.MuLink := { lock := 244, unlock := 245, ilock := 267, iunlock := 268, lockSlow := 292, unlockSlow := 295, disable := 288, enable := 290, acquire := 291, relMerge := 293, cas32 := 289, add32 := 294, tMutex := 237, tIMutex := 235, tPMutex := 408, tPIMutex := 427, tPI32 := 172, tUP := 294, tNoCopy := 233, tU32 := 26 }
theorem muLib : Go.Conc.Locks.MuLib Tryz.prog muLink :=
  ⟨Tryz.func244, Tryz.func245, Tryz.func267, Tryz.func268, Tryz.func288, Tryz.func290, Tryz.func291, Tryz.func293, Tryz.func289, Tryz.func294, Tryz.underlying235, Tryz.runUnderlying235, Tryz.sizeOf235, Tryz.isAgg235, Tryz.zeroValue235, Tryz.underlying237, Tryz.runUnderlying237, Tryz.sizeOf237, Tryz.isAgg237, Tryz.zeroValue237, Tryz.underlying408, Tryz.runUnderlying408, Tryz.sizeOf408, Tryz.isAgg408, Tryz.zeroValue408, Tryz.underlying427, Tryz.runUnderlying427, Tryz.sizeOf427, Tryz.isAgg427, Tryz.zeroValue427, Tryz.underlying172, Tryz.runUnderlying172, Tryz.sizeOf172, Tryz.isAgg172, Tryz.zeroValue172, Tryz.underlying294, Tryz.runUnderlying294, Tryz.sizeOf294, Tryz.isAgg294, Tryz.zeroValue294, Tryz.underlying233, Tryz.runUnderlying233, Tryz.sizeOf233, Tryz.isAgg233, Tryz.zeroValue233, Tryz.underlying21, Tryz.runUnderlying21, Tryz.sizeOf21, Tryz.isAgg21, Tryz.zeroValue21, (by kernel_rfl)⟩
end Go.Proofs.YtebjclmbacmilaaGreatDoor
