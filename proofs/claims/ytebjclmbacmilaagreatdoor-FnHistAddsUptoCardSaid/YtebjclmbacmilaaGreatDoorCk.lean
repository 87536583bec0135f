/- Contracts of the clock of the thin package while nothing is due. No conditions beside the cells. -/
import Derived.Test.YtebjclmbacmilaaGreatDoorE
namespace Go.Proofs.YtebjclmbacmilaaGreatDoor
open Go.RowKit

theorem newClock_any (x : Int) (w : World) : Calls Tryz.prog 50 #[.int .i64 x] w fun e w' => e = .returned (.pointer (some ⟨w.heap.size, 0, none⟩)) ∧ w' = w.alloc (.cells #[.int .i64 x, .slice none 0 0] 162) := by
  go_enter Tryz.func50, Tryz.ntmps50
  go_wp2
  go_ret
  exact ⟨rfl, rfl⟩
theorem now_any (k : Nat) (x : Int) (w : World) (h : w.cell? ⟨k, 0, none⟩ = some (.int .i64 x)) : Calls Tryz.prog 70 #[.pointer (some ⟨k, 0, none⟩)] w fun e w' => e = .returned (.int .i64 x) ∧ w' = w := by
  go_enter Tryz.func70, Tryz.ntmps70
  go_wp2
  go_ret
  exact ⟨rfl, rfl⟩
set_option maxRecDepth 100000 in
theorem clockTo_plain (k : Nat) (x y : Int) (w : World) (h : IsBlock w k [.int .i64 x, .slice none 0 0]) : Calls Tryz.prog 52 #[.pointer (some ⟨k, 0, none⟩), .int .i64 y] w fun e w' =>
    e = .returned (.tuple #[]) ∧ w' = w.setCell ⟨k, 0, none⟩ (.int .i64 (max x y)) := by
  have c0 := h.cell (i := 0) rfl
  have c1 := h.cell (i := 1) rfl
  have f0 := h.free 0
  clear h
  go_enter Tryz.func52, Tryz.ntmps52
  go_wp2
  refine wp_loop_once ?_
  go_wp2
  · rename_i hlt
    go_end0
    refine ⟨rfl, ?_⟩
    have : max x y = y := by omega
    rw [this]
  · rename_i hge
    go_end0
    refine ⟨rfl, ?_⟩
    have : max x y = x := by omega
    rw [this]
end Go.Proofs.YtebjclmbacmilaaGreatDoor
