/- What the functions without a body do that the walks come to: sync/atomic's, math's bits. No conditions beside the cells that are read or written. -/
import Derived.Test.YtebjclmbacmilaaGreatDoorProg
import Derived.WalkKit
import Derived.WalkSpells
import Derived.WalkLawsBesides
import Derived.KernelRfl
import Derived.Lib.Hide
namespace Go.Proofs.YtebjclmbacmilaaGreatDoor
open Go.RowKit

theorem load_u64 {a : Addr} {x : Int} {w : World} (hc : w.cell? a = some (.int .u64 x)) :
    (callFunc 250 #[.pointer (some a)]).run Tryz.prog w = .ok (.value (.int .u64 x)) w :=
  run_call_load Tryz.func250 (by kernel_rfl) (by kernel_rfl) (by kernel_rfl) .u64 (by kernel_rfl) hc
theorem load_i32 {a : Addr} {x : Int} {w : World} (hc : w.cell? a = some (.int .i32 x)) :
    (callFunc 253 #[.pointer (some a)]).run Tryz.prog w = .ok (.value (.int .i32 x)) w :=
  run_call_load Tryz.func253 (by kernel_rfl) (by kernel_rfl) (by kernel_rfl) .i32 (by kernel_rfl) hc
theorem store_u64 {a : Addr} {y : Int} {u : Value} {w : World} (hc : w.cell? a = some u) (hz : w.frozen? a = false) :
    (callFunc 108 #[.pointer (some a), .int .u64 y]).run Tryz.prog w = .ok (.value (.tuple #[])) (w.setCell a (.int .u64 y)) :=
  run_call_store Tryz.func108 (by kernel_rfl) (by kernel_rfl) (by kernel_rfl) (by kernel_rfl) hc hz
theorem store_i32 {a : Addr} {y : Int} {u : Value} {w : World} (hc : w.cell? a = some u) (hz : w.frozen? a = false) :
    (callFunc 110 #[.pointer (some a), .int .i32 y]).run Tryz.prog w = .ok (.value (.tuple #[])) (w.setCell a (.int .i32 y)) :=
  run_call_store Tryz.func110 (by kernel_rfl) (by kernel_rfl) (by kernel_rfl) (by kernel_rfl) hc hz
theorem add_u64 {a : Addr} {x y : Int} {w : World} (hc : w.cell? a = some (.int .u64 x)) (hz : w.frozen? a = false) :
    (callFunc 246 #[.pointer (some a), .int .u64 y]).run Tryz.prog w = .ok (.value (.int .u64 (IntKind.u64.wrap (x + y)))) (w.setCell a (.int .u64 (IntKind.u64.wrap (x + y)))) :=
  run_call_add Tryz.func246 (by kernel_rfl) (by kernel_rfl) (by kernel_rfl) .u64 (by kernel_rfl) hc hz rfl
theorem cas_u64 {a : Addr} {x y : Int} {w : World} (hc : w.cell? a = some (.int .u64 x)) (hz : w.frozen? a = false) :
    (callFunc 299 #[.pointer (some a), .int .u64 x, .int .u64 y]).run Tryz.prog w = .ok (.value (.bool true)) (w.setCell a (.int .u64 y)) :=
  run_call_cas_hit Tryz.func299 (by kernel_rfl) (by kernel_rfl) (by kernel_rfl) .u64 (by kernel_rfl) hc hz
theorem float_bits (x : Nat) (w : World) :
    (callFunc 109 #[.float .f64 x]).run Tryz.prog w = .ok (.value (.int .u64 x)) w := by
  rw [run_callFunc_extern Tryz.func109 (by kernel_rfl) (by kernel_rfl) (by kernel_rfl) (show Extern.find Tryz.f109 = some Extern.MathFloatBits.float64bits by kernel_rfl)]
  rfl
theorem float_from (n : Int) (w : World) :
    (callFunc 146 #[.int .u64 n]).run Tryz.prog w = .ok (.value (.float .f64 n.toNat)) w := by
  rw [run_callFunc_extern Tryz.func146 (by kernel_rfl) (by kernel_rfl) (by kernel_rfl) (show Extern.find Tryz.f146 = some Extern.MathFloatBits.float64frombits by kernel_rfl)]
  rfl

/- The same as rules of the walk: the cell is looked up by the walk itself. -/
noncomputable def loadRes (f : FuncId) (k : IntKind) (a : Addr) (w : World) : Option Value → Result Next
  | some (.int k' x) => if k' = k then .ok (.value (.int k x)) w else (callFunc f #[.pointer (some a)]).run Tryz.prog w
  | _ => (callFunc f #[.pointer (some a)]).run Tryz.prog w
@[go_sem] theorem loadRes_int (f : FuncId) (k : IntKind) (a : Addr) (w : World) (x : Int) : loadRes f k a w (some (.int k x)) = .ok (.value (.int k x)) w := if_pos rfl
noncomputable def storeRes (f : FuncId) (a : Addr) (v : Value) (w : World) : Option Value → Bool → Result Next
  | some _, false => .ok (.value (.tuple #[])) (w.setCell a v)
  | _, _ => (callFunc f #[.pointer (some a), v]).run Tryz.prog w
@[go_sem] theorem storeRes_some (f : FuncId) (a : Addr) (v : Value) (w : World) (u : Value) : storeRes f a v w (some u) false = .ok (.value (.tuple #[])) (w.setCell a v) := rfl
noncomputable def addRes (f : FuncId) (k : IntKind) (a : Addr) (y : Int) (w : World) : Option Value → Bool → Result Next
  | some (.int k' x), false => if k' = k then .ok (.value (.int k (k.wrap (x + y)))) (w.setCell a (.int k (k.wrap (x + y)))) else (callFunc f #[.pointer (some a), .int k y]).run Tryz.prog w
  | _, _ => (callFunc f #[.pointer (some a), .int k y]).run Tryz.prog w
@[go_sem] theorem addRes_int (f : FuncId) (k : IntKind) (a : Addr) (y : Int) (w : World) (x : Int) :
    addRes f k a y w (some (.int k x)) false = .ok (.value (.int k (k.wrap (x + y)))) (w.setCell a (.int k (k.wrap (x + y)))) := if_pos rfl

@[go_sem] theorem load_rule250 (a : Addr) (w : World) : (callFunc 250 #[.pointer (some a)]).run Tryz.prog w = loadRes 250 .u64 a w (w.cell? a) := by
  unfold loadRes
  split
  · rename_i h
    split
    · rename_i e; subst e
      exact run_call_load Tryz.func250 (by kernel_rfl) (by kernel_rfl) (by kernel_rfl) .u64 (by kernel_rfl) h
    · rfl
  · rfl

@[go_sem] theorem load_rule253 (a : Addr) (w : World) : (callFunc 253 #[.pointer (some a)]).run Tryz.prog w = loadRes 253 .i32 a w (w.cell? a) := by
  unfold loadRes
  split
  · rename_i h
    split
    · rename_i e; subst e
      exact run_call_load Tryz.func253 (by kernel_rfl) (by kernel_rfl) (by kernel_rfl) .i32 (by kernel_rfl) h
    · rfl
  · rfl

@[go_sem] theorem load_rule279 (a : Addr) (w : World) : (callFunc 279 #[.pointer (some a)]).run Tryz.prog w = loadRes 279 .u32 a w (w.cell? a) := by
  unfold loadRes
  split
  · rename_i h
    split
    · rename_i e; subst e
      exact run_call_load Tryz.func279 (by kernel_rfl) (by kernel_rfl) (by kernel_rfl) .u32 (by kernel_rfl) h
    · rfl
  · rfl

@[go_sem] theorem load_rule272 (a : Addr) (w : World) : (callFunc 272 #[.pointer (some a)]).run Tryz.prog w = loadRes 272 .i64 a w (w.cell? a) := by
  unfold loadRes
  split
  · rename_i h
    split
    · rename_i e; subst e
      exact run_call_load Tryz.func272 (by kernel_rfl) (by kernel_rfl) (by kernel_rfl) .i64 (by kernel_rfl) h
    · rfl
  · rfl

@[go_sem] theorem store_rule108 (a : Addr) (y : Int) (w : World) : (callFunc 108 #[.pointer (some a), .int .u64 y]).run Tryz.prog w = storeRes 108 a (.int .u64 y) w (w.cell? a) (w.frozen? a) := by
  unfold storeRes
  split
  · rename_i h1 h2
    exact run_call_store Tryz.func108 (by kernel_rfl) (by kernel_rfl) (by kernel_rfl) (by kernel_rfl) h1 h2
  · rfl

@[go_sem] theorem store_rule110 (a : Addr) (y : Int) (w : World) : (callFunc 110 #[.pointer (some a), .int .i32 y]).run Tryz.prog w = storeRes 110 a (.int .i32 y) w (w.cell? a) (w.frozen? a) := by
  unfold storeRes
  split
  · rename_i h1 h2
    exact run_call_store Tryz.func110 (by kernel_rfl) (by kernel_rfl) (by kernel_rfl) (by kernel_rfl) h1 h2
  · rfl

@[go_sem] theorem store_rule307 (a : Addr) (y : Int) (w : World) : (callFunc 307 #[.pointer (some a), .int .u32 y]).run Tryz.prog w = storeRes 307 a (.int .u32 y) w (w.cell? a) (w.frozen? a) := by
  unfold storeRes
  split
  · rename_i h1 h2
    exact run_call_store Tryz.func307 (by kernel_rfl) (by kernel_rfl) (by kernel_rfl) (by kernel_rfl) h1 h2
  · rfl

@[go_sem] theorem store_rule274 (a : Addr) (y : Int) (w : World) : (callFunc 274 #[.pointer (some a), .int .i64 y]).run Tryz.prog w = storeRes 274 a (.int .i64 y) w (w.cell? a) (w.frozen? a) := by
  unfold storeRes
  split
  · rename_i h1 h2
    exact run_call_store Tryz.func274 (by kernel_rfl) (by kernel_rfl) (by kernel_rfl) (by kernel_rfl) h1 h2
  · rfl

@[go_sem] theorem add_rule246 (a : Addr) (y : Int) (w : World) : (callFunc 246 #[.pointer (some a), .int .u64 y]).run Tryz.prog w = addRes 246 .u64 a y w (w.cell? a) (w.frozen? a) := by
  unfold addRes
  split
  · rename_i h1 h2
    split
    · rename_i e; subst e
      exact run_call_add Tryz.func246 (by kernel_rfl) (by kernel_rfl) (by kernel_rfl) .u64 (by kernel_rfl) h1 h2 rfl
    · rfl
  · rfl

@[go_sem] theorem add_rule273 (a : Addr) (y : Int) (w : World) : (callFunc 273 #[.pointer (some a), .int .u32 y]).run Tryz.prog w = addRes 273 .u32 a y w (w.cell? a) (w.frozen? a) := by
  unfold addRes
  split
  · rename_i h1 h2
    split
    · rename_i e; subst e
      exact run_call_add Tryz.func273 (by kernel_rfl) (by kernel_rfl) (by kernel_rfl) .u32 (by kernel_rfl) h1 h2 rfl
    · rfl
  · rfl

@[go_sem] theorem add_rule297 (a : Addr) (y : Int) (w : World) : (callFunc 297 #[.pointer (some a), .int .i64 y]).run Tryz.prog w = addRes 297 .i64 a y w (w.cell? a) (w.frozen? a) := by
  unfold addRes
  split
  · rename_i h1 h2
    split
    · rename_i e; subst e
      exact run_call_add Tryz.func297 (by kernel_rfl) (by kernel_rfl) (by kernel_rfl) .i64 (by kernel_rfl) h1 h2 rfl
    · rfl
  · rfl

attribute [go_sem] float_bits float_from
end Go.Proofs.YtebjclmbacmilaaGreatDoor
