/- atomic.Value.Load as facts, and as a rule of the walk. No conditions. -/
import Derived.Test.YtebjclmbacmilaaGreatDoorA
namespace Go.Proofs.YtebjclmbacmilaaGreatDoor
open Go.RowKit
theorem load_un (a : Addr) : Extern.AtomicValue.load_ #[.pointer (some a)] = (do pure (← Extern.AtomicValue.held (← asAddr (.pointer (some a)))).1) := rfl
theorem any_load_nil {a : Addr} {w : World} (hc : w.cell? a = some .nilIface) : (callFunc 251 #[.pointer (some a)]).run Tryz.prog w = .ok (.value .nilIface) w := by
  rw [run_callFunc_extern Tryz.func251 (by kernel_rfl) (by kernel_rfl) (by kernel_rfl) (show Extern.find Tryz.f251 = some Extern.AtomicValue.load_ by kernel_rfl), load_un]
  simp [Extern.AtomicValue.held, asAddr, go_sem, hc]
theorem any_load_iface {a : Addr} {w : World} {t : TypeId} {v : Value} (hc : w.cell? a = some (.iface t v)) : (callFunc 251 #[.pointer (some a)]).run Tryz.prog w = .ok (.value (.iface t v)) w := by
  rw [run_callFunc_extern Tryz.func251 (by kernel_rfl) (by kernel_rfl) (by kernel_rfl) (show Extern.find Tryz.f251 = some Extern.AtomicValue.load_ by kernel_rfl), load_un]
  simp [Extern.AtomicValue.held, asAddr, go_sem, hc]
noncomputable def anyRes (a : Addr) (w : World) : Option Value → Result Next
  | some .nilIface => .ok (.value .nilIface) w
  | some (.iface t v) => .ok (.value (.iface t v)) w
  | _ => (callFunc 251 #[.pointer (some a)]).run Tryz.prog w
@[go_sem] theorem anyRes_nil (a : Addr) (w : World) : anyRes a w (some .nilIface) = .ok (.value .nilIface) w := rfl
@[go_sem] theorem anyRes_iface (a : Addr) (w : World) (t : TypeId) (v : Value) : anyRes a w (some (.iface t v)) = .ok (.value (.iface t v)) w := rfl
@[go_sem] theorem load_rule251 (a : Addr) (w : World) : (callFunc 251 #[.pointer (some a)]).run Tryz.prog w = anyRes a w (w.cell? a) := by
  unfold anyRes
  split
  · rename_i h; exact any_load_nil h
  · rename_i h; exact any_load_iface h
  · rfl
end Go.Proofs.YtebjclmbacmilaaGreatDoor
