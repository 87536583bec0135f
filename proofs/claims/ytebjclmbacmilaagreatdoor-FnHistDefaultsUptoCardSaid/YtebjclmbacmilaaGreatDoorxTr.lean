/- Contracts of the clock of the thin package while nothing is due. No conditions beside the cells. Contracts of DoorTry: of a function that returns, of a function that panics. Condition: the function leaves the named result alone. -/
import Derived.Test.YtebjclmbacmilaaGreatDoorxH
import Derived.Test.YtebjclmbacmilaaGreatDoorxD
import Derived.Test.YtebjclmbacmilaaGreatDoorC
import Derived.Recover
namespace Go.Proofs.YtebjclmbacmilaaGreatDoor
open Go.RowKit

theorem newClock_any (x : Int) (w : World) : Calls Tryz.prog 50 #[.int .i64 x] w fun e w' => e = .returned (.pointer (some ⟨w.heap.size, 0, none⟩)) ∧ w' = w.alloc (.cells #[.int .i64 x, .slice none 0 0] 162) := by
  go_enter Tryz.func50, Tryz.ntmps50
  go_wp2
  go_ret
  exact ⟨rfl, rfl⟩
theorem now_any (k : Nat) (x : Int) (w : World) (h : w.cell? ⟨k, 0, none⟩ = some (.int .i64 x)) : Calls Tryz.prog 70 #[.pointer (some ⟨k, 0, none⟩)] w fun e w' => e = .returned (.int .i64 x) ∧ w' = w := by
  go_enter Tryz.func70, Tryz.ntmps70
  go_wp2
  go_ret
  exact ⟨rfl, rfl⟩
set_option maxRecDepth 100000 in
theorem clockTo_plain (k : Nat) (x y : Int) (w : World) (h : IsBlock w k [.int .i64 x, .slice none 0 0]) : Calls Tryz.prog 52 #[.pointer (some ⟨k, 0, none⟩), .int .i64 y] w fun e w' =>
    e = .returned (.tuple #[]) ∧ w' = w.setCell ⟨k, 0, none⟩ (.int .i64 (max x y)) := by
  have c0 := h.cell (i := 0) rfl
  have c1 := h.cell (i := 1) rfl
  have f0 := h.free 0
  clear h
  go_enter Tryz.func52, Tryz.ntmps52
  go_wp2
  refine wp_loop_once ?_
  go_wp2
  · rename_i hlt
    go_end0
    refine ⟨rfl, ?_⟩
    have : max x y = y := by omega
    rw [this]
  · rename_i hge
    go_end0
    refine ⟨rfl, ?_⟩
    have : max x y = x := by omega
    rw [this]
end Go.Proofs.YtebjclmbacmilaaGreatDoor

namespace Go.Proofs.YtebjclmbacmilaaGreatDoor
open Go.RowKit

theorem tryCatch_panicking (p : Addr) (x : Bool) (u : TypeId) (pv : Value) (older : List PanicEntry) (w : World) (hc : w.cell? p = some (.bool x)) (hz : w.frozen? p = false) :
    CallsD Tryz.prog 74 #[.pointer (some p)] (.panicking ({ v := .iface u pv, recovered := false } :: older)) w fun e u' w' =>
      e = .returned (.tuple #[]) ∧ u' = .panicking ({ v := .iface u pv, recovered := true } :: older) ∧ w' = w.setCell p (.bool false) := by
  refine callsD_of_wpS Tryz.func74 rfl fun c₀ cs hu => ?_
  apply wpS_seq
  apply wpS_region
  simp [wpOpsS, go_sem, recoverD, hu, Tryz.ntmps74, Exit.thenS]
  refine wpS_cond (t := true) (by simp [Act.eval, Array.replicate]) ?_
  simp only [if_true]
  apply wpS_region
  simp [wpOpsS, go_sem, hc, hz, bodyPostS, results, Tryz.results74]

theorem tryCatch_idle (p : Addr) (w : World) :
    CallsD Tryz.prog 74 #[.pointer (some p)] .returning w fun e u' w' => e = .returned (.tuple #[]) ∧ u' = .returning ∧ w' = w := by
  refine callsD_of_wpS Tryz.func74 rfl fun c₀ cs hu => ?_
  apply wpS_seq
  apply wpS_region
  simp [wpOpsS, go_sem, recoverD, hu, Tryz.ntmps74, Exit.thenS]
  refine wpS_cond (t := false) (by simp [Act.eval, Array.replicate]) ?_
  simp only [Bool.false_eq_true, if_false]
  refine wpS_of_wp (wp_skip ?_)
  cases c₀
  simp_all [bodyPostS, results, Tryz.results74]

set_option maxRecDepth 100000 in
/-- prometheus.DoorTry of a function that returns. -/
theorem doorTry_ok (F : FuncId) (cap : Array Value) (w : World) (R : World → Prop) (hcall : ∀ w, (callFunc F cap).run Tryz.prog w = .ok (.enter F cap) w)
    (hf : Calls Tryz.prog F cap (w.alloc (.cells #[.bool false] 4)) fun e w' => e = .returned (.tuple #[]) ∧ IsBlock w' w.heap.size [.bool false] ∧ R w') :
    Calls Tryz.prog 53 #[.func (.func F) #[] cap] w fun e w' => e = .returned (.bool true) ∧ ∃ w1, R w1 ∧ w' = w1.setCell ⟨w.heap.size, 0, none⟩ (.bool true) := by
  have hmf : ∀ (fn : Fn) (first cap : Array Value) (w : World), (Instr.makeFunc fn first cap).run Tryz.prog w = .ok (.func fn first cap) w := fun _ _ _ _ => rfl
  have HF := Lib.hid hf
  clear hf
  go_enter_defers Tryz.func53, Tryz.ntmps53
  go_wp2_with fail
  refine HF.out.mono ?_
  rintro e w1 ⟨rfl, hb, hR⟩
  have hc := hb.cell (i := 0) rfl
  have hz := hb.free 0
  have HR := Lib.hid hR
  have HB := Lib.hid hb
  clear hb hR
  go_wp2_with fail
  refine leaves_cons (f := 74) (args := #[.pointer (some ⟨w.heap.size, 0, none⟩)]) (by simp) (by simp [go_sem]) ?_
  refine (tryCatch_idle ⟨w.heap.size, 0, none⟩ _).mono ?_
  rintro e u' w'' ⟨rfl, rfl, rfl⟩
  have hc2 := (HB.out.set 0 (.bool true)).cell (i := 0) rfl
  simp [Leaves, settle, results, Tryz.results53, go_sem, hc2]
  exact ⟨w1, HR.out, rfl⟩

set_option maxRecDepth 100000 in
/-- prometheus.DoorTry of a function that panics. -/
theorem doorTry_no (F : FuncId) (cap : Array Value) (w : World) (R : World → Prop) (hcall : ∀ w, (callFunc F cap).run Tryz.prog w = .ok (.enter F cap) w)
    (hf : Calls Tryz.prog F cap (w.alloc (.cells #[.bool false] 4)) fun e w' => (∃ t v, e = .panicked [{ v := .iface t v, recovered := false }]) ∧ IsBlock w' w.heap.size [.bool false] ∧ R w') :
    Calls Tryz.prog 53 #[.func (.func F) #[] cap] w fun e w' => e = .returned (.bool false) ∧ ∃ w1, R w1 ∧ w' = w1.setCell ⟨w.heap.size, 0, none⟩ (.bool false) := by
  have hmf : ∀ (fn : Fn) (first cap : Array Value) (w : World), (Instr.makeFunc fn first cap).run Tryz.prog w = .ok (.func fn first cap) w := fun _ _ _ _ => rfl
  have HF := Lib.hid hf
  clear hf
  go_enter_defers Tryz.func53, Tryz.ntmps53
  go_wp2_with fail
  refine HF.out.mono ?_
  rintro e w1 ⟨⟨t, v, rfl⟩, hb, hR⟩
  have hc := hb.cell (i := 0) rfl
  have hz := hb.free 0
  have HR := Lib.hid hR
  have HB := Lib.hid hb
  clear hb hR
  go_wp2_with fail
  refine leaves_cons (f := 74) (args := #[.pointer (some ⟨w.heap.size, 0, none⟩)]) (by simp) (by simp [go_sem]) ?_
  refine (tryCatch_panicking ⟨w.heap.size, 0, none⟩ false t v [] w1 hc hz).mono ?_
  rintro e u' w'' ⟨rfl, rfl, rfl⟩
  have hc2 := (HB.out.set 0 (.bool false)).cell (i := 0) rfl
  simp [Leaves, settle, results, Tryz.results53, go_sem, hc2]
  exact ⟨w1, HR.out, rfl⟩
end Go.Proofs.YtebjclmbacmilaaGreatDoor
