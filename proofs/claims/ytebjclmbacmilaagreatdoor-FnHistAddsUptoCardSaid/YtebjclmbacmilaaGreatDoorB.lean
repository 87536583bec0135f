/- The words of the walks (worlds that differ in some blocks alone), floating-point sums in the walk, and the contracts of the small functions that count an observation. -/
import Derived.Test.YtebjclmbacmilaaGreatDoorA
import Derived.Test.YtebjclmbacmilaaGreatDoorFl
namespace Go.Proofs.YtebjclmbacmilaaGreatDoor
open Go.RowKit

/-- r is what x + y yields: its word, or some NaN. -/
def AddTo (x y r : Nat) : Prop := Ieee.double.add x y = some r ∨ (Ieee.double.add x y = none ∧ (Ieee.double.read r).isNaN = true ∧ r < 2 ^ 64)

theorem nan_cut (x y t : Nat) : (Ieee.double.read (Question.cut (.nanBits .f64 x y) t)).isNaN = true ∧ Question.cut (.nanBits .f64 x y) t < 2 ^ 64 := by
  have e1 : Ieee.double.signWeight = 2 ^ 63 := rfl
  have e2 : Ieee.double.binade = 2 ^ 52 := rfl
  have e4 : Ieee.double.infRung = 2047 * 2 ^ 52 := rfl
  unfold Question.cut
  simp only
  generalize hu : (t / 2) % (2 ^ 52 - 1) = u
  have hlt : u < 2 ^ 52 - 1 := by rw [← hu]; exact Nat.mod_lt _ (by decide)
  generalize hv : t % 2 = v
  have hv2 : v < 2 := by omega
  constructor
  · unfold Ieee.Format.read
    simp only [e1, e2, e4]
    have hr : (v * 2 ^ 63 + 0x7ff0000000000000 + 1 + u) % 2 ^ 63 = 0x7ff0000000000000 + 1 + u := by omega
    rw [hr, if_neg (by omega), if_neg (by omega), if_neg (by omega)]
    rfl
  · omega

theorem run_float_add {P : Program} (t : TypeId) (x y : Nat) (w : World) :
    ∃ r n, AddTo x y r ∧ (binOp .add t (.float .f64 x) (.float .f64 y)).run P w = .ok (.float .f64 r) (w.drewN n) := by
  cases h : Ieee.double.add x y with
  | some r =>
    refine ⟨r, 0, .inl h, ?_⟩
    rw [run_float_arith w .add t .f64 x y r h]; rfl
  | none =>
    have := nan_cut x y (w.tape w.drawn (.nanBits .f64 x y))
    refine ⟨_, 1, .inr ⟨h, this⟩, ?_⟩
    have h' : FloatKind.f64.format.add x y = none := h
    simp [binOp, Op.floatArith, h', Sem.run, choose, Question.forced, World.drewN]

set_option maxHeartbeats 400000 in
theorem atomicAddFloat_any (a : Addr) (s v : Nat) (w : World) (hc : w.cell? a = some (.int .u64 s)) (hz : w.frozen? a = false) :
    Calls Tryz.prog 278 #[.pointer (some a), .float .f64 v] w fun e w' => ∃ r n, AddTo s v r ∧ e = .returned (.tuple #[]) ∧ w' = (w.drewN n).setCell a (.int .u64 (r : Nat)) := by
  obtain ⟨r, n, hadd, hrun⟩ := run_float_add (P := Tryz.prog) 25 s v w
  have h1 := load_u64 hc
  have h2 := float_from (s : Int) w
  have h3 := float_bits r (w.drewN n)
  have h4 := cas_u64 (a := a) (x := (s : Int)) (y := (r : Int)) (w := w.drewN n) hc hz
  have HA := Lib.hid hadd
  clear hadd
  go_enter Tryz.func278, Tryz.ntmps278
  go_wp2
  refine wp_loop_once ?_
  go_wp2
  go_end0
  exact ⟨r, n, HA.out, rfl, rfl⟩

theorem wrap_u64_succ (x : Nat) (h : x + 1 < 2 ^ 64) : IntKind.u64.wrap ((x : Int) + 1) = (x : Int) + 1 := by
  have : ((x : Int) + 1) = ((x + 1 : Nat) : Int) := by omega
  rw [this]
  show (((x + 1 : Nat) : Int) % 2 ^ 64) = _
  omega

/-- One more in a counter that does not wrap. -/
theorem incr_u64 {a : Addr} {x : Nat} {w : World} (hc : w.cell? a = some (.int .u64 x)) (hz : w.frozen? a = false) (hx : x + 1 < 2 ^ 64) :
    (callFunc 246 #[.pointer (some a), .int .u64 1]).run Tryz.prog w = .ok (.value (.int .u64 ((x : Int) + 1))) (w.setCell a (.int .u64 ((x : Int) + 1))) := by
  have := add_u64 (y := 1) hc hz
  rw [wrap_u64_succ x hx] at this
  exact this
end Go.Proofs.YtebjclmbacmilaaGreatDoor
