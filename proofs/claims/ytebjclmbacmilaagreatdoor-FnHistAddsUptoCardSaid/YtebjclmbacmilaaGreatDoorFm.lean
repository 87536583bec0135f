/- Plain laws of IEEE 754 words: words that are no NaN are ordered as whole numbers, sign and magnitude. No conditions beside those typed. -/
import Derived.Test.YtebjclmbacmilaaGreatDoorFl
namespace Go.Proofs.YtebjclmbacmilaaGreatDoor.Fl
open Ieee

def rung (x : Nat) : Nat := x % 2 ^ 63
def sgn (x : Nat) : Bool := x / 2 ^ 63 % 2 == 1
/-- The place of a word among the words that are no NaN; the two zeros share one. -/
def key (x : Nat) : Int := if sgn x then -(rung x : Int) else (rung x : Int)
def isNaN (x : Nat) : Bool := (double.read x).isNaN

def val (r : Nat) : Nat := if r < 2 ^ 52 then r else (2 ^ 52 + r % 2 ^ 52) * 2 ^ (r / 2 ^ 52 - 1)

theorem isNaN_iff (x : Nat) : isNaN x = decide (2047 * 2 ^ 52 < rung x) := by
  have e1 : double.signWeight = 2 ^ 63 := rfl
  have e2 : double.binade = 2 ^ 52 := rfl
  have e4 : double.infRung = 2047 * 2 ^ 52 := rfl
  unfold isNaN Format.read rung
  simp only [e1, e2, e4]
  split
  · rename_i h; simp only [Datum.isNaN]; symm; rw [decide_eq_false_iff_not]; omega
  · split
    · simp only [Datum.isNaN]; symm; rw [decide_eq_false_iff_not]; omega
    · split
      · simp only [Datum.isNaN]; symm; rw [decide_eq_false_iff_not]; omega
      · simp only [Datum.isNaN]; symm; rw [decide_eq_true_eq]; omega

theorem read_val {x : Nat} (h : rung x < 2047 * 2 ^ 52) : ∃ m k : Nat, double.read x = .number (sgn x) m (double.leastPlace + k) ∧ m * 2 ^ k = val (rung x) := by
  have e1 : double.signWeight = 2 ^ 63 := rfl
  have e2 : double.binade = 2 ^ 52 := rfl
  have e4 : double.infRung = 2047 * 2 ^ 52 := rfl
  unfold rung at h
  unfold Format.read
  simp only [e1, e2, e4]
  by_cases h1 : x % 2 ^ 63 < 2 ^ 52
  · rw [if_pos h1]
    refine ⟨x % 2 ^ 63, 0, by simp [sgn], ?_⟩
    unfold val rung
    rw [if_pos h1, Nat.pow_zero, Nat.mul_one]
  · rw [if_neg h1, if_pos h]
    refine ⟨2 ^ 52 + x % 2 ^ 63 % 2 ^ 52, x % 2 ^ 63 / 2 ^ 52 - 1, rfl, ?_⟩
    unfold val rung
    rw [if_neg h1]

theorem read_inf {x : Nat} (h : rung x = 2047 * 2 ^ 52) : double.read x = .infinity (sgn x) := by
  have e1 : double.signWeight = 2 ^ 63 := rfl
  have e2 : double.binade = 2 ^ 52 := rfl
  have e4 : double.infRung = 2047 * 2 ^ 52 := rfl
  unfold rung at h
  unfold Format.read
  simp only [e1, e2, e4]
  rw [if_neg (by omega), if_neg (by omega), if_pos h]
  rfl

theorem val_succ (r : Nat) : val r < val (r + 1) := by
  unfold val
  by_cases h1 : r + 1 < 2 ^ 52
  · rw [if_pos (by omega), if_pos h1]; omega
  · rw [if_neg h1]
    by_cases h2 : r < 2 ^ 52
    · rw [if_pos h2]
      have e : r + 1 = 2 ^ 52 := by omega
      rw [e]
      have : (2 ^ 52 + 2 ^ 52 % 2 ^ 52) * 2 ^ (2 ^ 52 / 2 ^ 52 - 1) = 2 ^ 52 := by decide +kernel
      rw [this]; omega
    · rw [if_neg h2]
      obtain ⟨q, hq⟩ : ∃ q, q = r / 2 ^ 52 := ⟨_, rfl⟩
      obtain ⟨t, ht⟩ : ∃ t, t = r % 2 ^ 52 := ⟨_, rfl⟩
      have htl : t < 2 ^ 52 := by rw [ht]; exact Nat.mod_lt _ (Nat.two_pow_pos _)
      have hr : r = q * 2 ^ 52 + t := by rw [hq, ht]; have := Nat.div_add_mod r (2 ^ 52); omega
      have hq1 : 1 ≤ q := by rw [hq]; exact (Nat.le_div_iff_mul_le (Nat.two_pow_pos 52)).2 (by omega)
      by_cases h3 : t + 1 < 2 ^ 52
      · have a1 : (r + 1) / 2 ^ 52 = q := by omega
        have a2 : (r + 1) % 2 ^ 52 = t + 1 := by omega
        rw [a1, a2, ← hq, ← ht]
        exact Nat.mul_lt_mul_of_pos_right (by omega) (Nat.two_pow_pos _)
      · have a1 : (r + 1) / 2 ^ 52 = q + 1 := by omega
        have a2 : (r + 1) % 2 ^ 52 = 0 := by omega
        rw [a1, a2, ← hq, ← ht]
        obtain ⟨p, rfl⟩ : ∃ p, q = p + 1 := ⟨q - 1, by omega⟩
        have e3 : 2 ^ (p + 1) = 2 ^ p * 2 := Nat.pow_succ ..
        rw [Nat.add_sub_cancel, Nat.add_sub_cancel, e3]
        have hp : 0 < 2 ^ p := Nat.two_pow_pos _
        have : (2 ^ 52 + 0) * (2 ^ p * 2) = (2 ^ 52 + 2 ^ 52) * 2 ^ p := by
          generalize 2 ^ p = z; omega
        rw [this]
        exact Nat.mul_lt_mul_of_pos_right (by omega) hp

theorem val_lt {r s : Nat} (h : r < s) : val r < val s := by
  induction s with
  | zero => omega
  | succ s ih =>
    rcases Nat.lt_or_ge r s with h' | h'
    · exact Nat.lt_trans (ih h') (val_succ s)
    · have : r = s := by omega
      subst this; exact val_succ r

theorem val_le {r s : Nat} (h : r ≤ s) : val r ≤ val s := by
  rcases Nat.lt_or_ge r s with h' | h'
  · exact Nat.le_of_lt (val_lt h')
  · have : r = s := by omega
    subst this; exact Nat.le_refl _

theorem val_zero : val 0 = 0 := rfl

theorem compare_scale (a b : Int) (k : Nat) : compare (a * 2 ^ k) (b * 2 ^ k) = compare a b := by
  have hpos : (0 : Int) < 2 ^ k := Int.pow_pos (by decide)
  rcases Int.lt_trichotomy a b with h | h | h
  · rw [Int.compare_eq_lt.2 h, Int.compare_eq_lt]
    exact Int.mul_lt_mul_of_pos_right h hpos
  · rw [h]; simp
  · rw [Int.compare_eq_gt.2 h, Int.compare_eq_gt]
    exact Int.mul_lt_mul_of_pos_right h hpos

def sval (s : Bool) (v : Nat) : Int := if s then -(v : Int) else (v : Int)

theorem signed_scale (s : Bool) (m j k : Nat) : signed s m j * 2 ^ k = sval s (m * 2 ^ (j + k)) := by
  unfold signed sval
  rw [Nat.shiftLeft_eq, Nat.pow_add, ← Nat.mul_assoc]
  cases s
  · simp only [Bool.false_eq_true, if_false]; rw [Int.natCast_mul (m * 2 ^ j), Int.natCast_pow]; rfl
  · simp only [if_true]; rw [Int.natCast_mul (m * 2 ^ j), Int.natCast_pow, Int.neg_mul]; rfl

theorem compare_sval (s t : Bool) (r q : Nat) : compare (sval s (val r)) (sval t (val q)) = compare (sval s r) (sval t q) := by
  have h0 : ∀ r, 0 < r → 0 < val r := fun r h => by have := val_lt h; rw [val_zero] at this; exact this
  unfold sval
  rcases Nat.lt_trichotomy r q with h | h | h
  · have hv := val_lt h
    have hq := h0 q (by omega)
    cases s <;> cases t <;> simp only [Bool.false_eq_true, if_false, if_true]
    · rw [Int.compare_eq_lt.2 (by omega), Int.compare_eq_lt.2 (by omega)]
    · rw [Int.compare_eq_gt.2 (by omega), Int.compare_eq_gt.2 (by omega)]
    · rw [Int.compare_eq_lt.2 (by omega), Int.compare_eq_lt.2 (by omega)]
    · rw [Int.compare_eq_gt.2 (by omega), Int.compare_eq_gt.2 (by omega)]
  · subst h
    rcases Nat.eq_zero_or_pos r with h | h
    · subst h; rw [val_zero]
    · have := h0 r h
      cases s <;> cases t <;> simp only [Bool.false_eq_true, if_false, if_true]
      · simp
      · rw [Int.compare_eq_gt.2 (by omega), Int.compare_eq_gt.2 (by omega)]
      · rw [Int.compare_eq_lt.2 (by omega), Int.compare_eq_lt.2 (by omega)]
      · simp
  · have hv := val_lt h
    have hq := h0 r (by omega)
    cases s <;> cases t <;> simp only [Bool.false_eq_true, if_false, if_true]
    · rw [Int.compare_eq_gt.2 (by omega), Int.compare_eq_gt.2 (by omega)]
    · rw [Int.compare_eq_gt.2 (by omega), Int.compare_eq_gt.2 (by omega)]
    · rw [Int.compare_eq_lt.2 (by omega), Int.compare_eq_lt.2 (by omega)]
    · rw [Int.compare_eq_lt.2 (by omega), Int.compare_eq_lt.2 (by omega)]

/-- Words that are no NaN are ordered by their keys. -/
theorem order_key {x y : Nat} (hx : isNaN x = false) (hy : isNaN y = false) : double.order x y = some (compare (key x) (key y)) := by
  rw [isNaN_iff, decide_eq_false_iff_not] at hx hy
  have hk : ∀ z, key z = sval (sgn z) (rung z) := fun _ => rfl
  rw [hk, hk]
  unfold Format.order
  by_cases hx1 : rung x = 2047 * 2 ^ 52
  · rw [read_inf hx1]
    by_cases hy1 : rung y = 2047 * 2 ^ 52
    · rw [read_inf hy1, hx1, hy1]
      cases sgn x <;> cases sgn y <;> decide +kernel
    · obtain ⟨n, l, hr, _⟩ := read_val (x := y) (by omega)
      rw [hr, hx1]
      simp only [Datum.order, Option.some.injEq, sval]
      cases sgn x <;> cases sgn y <;> simp only [Bool.false_eq_true, if_false, if_true]
      · exact (Int.compare_eq_gt.2 (by omega)).symm
      · exact (Int.compare_eq_gt.2 (by omega)).symm
      · exact (Int.compare_eq_lt.2 (by omega)).symm
      · exact (Int.compare_eq_lt.2 (by omega)).symm
  · obtain ⟨m, k, hr, hm⟩ := read_val (x := x) (by omega)
    rw [hr]
    by_cases hy1 : rung y = 2047 * 2 ^ 52
    · rw [read_inf hy1, hy1]
      simp only [Datum.order, Option.some.injEq, sval]
      cases sgn x <;> cases sgn y <;> simp only [Bool.false_eq_true, if_false, if_true]
      · exact (Int.compare_eq_lt.2 (by omega)).symm
      · exact (Int.compare_eq_gt.2 (by omega)).symm
      · exact (Int.compare_eq_lt.2 (by omega)).symm
      · exact (Int.compare_eq_gt.2 (by omega)).symm
    · obtain ⟨n, l, hr', hn⟩ := read_val (x := y) (by omega)
      rw [hr']
      simp only [Datum.order, Option.some.injEq]
      rw [← compare_sval, ← hm, ← hn]
      have eb : min (double.leastPlace + (k : Int)) (double.leastPlace + (l : Int)) = double.leastPlace + (min k l : Nat) := by omega
      rw [eb]
      have e1 : (double.leastPlace + (k : Int) - (double.leastPlace + (min k l : Nat))).toNat = k - min k l := by omega
      have e2 : (double.leastPlace + (l : Int) - (double.leastPlace + (min k l : Nat))).toNat = l - min k l := by omega
      rw [e1, e2, ← compare_scale _ _ (min k l), signed_scale, signed_scale]
      rw [show k - min k l + min k l = k by omega, show l - min k l + min k l = l by omega]

theorem order_nan_left {x y : Nat} (hx : isNaN x = true) : double.order x y = none := by
  unfold isNaN at hx; unfold Format.order
  cases h : double.read x with
  | nan s f => rfl
  | number s m e => rw [h] at hx; cases hx
  | infinity s => rw [h] at hx; cases hx
theorem order_nan_right {x y : Nat} (hy : isNaN y = true) : double.order x y = none := by
  unfold isNaN at hy; unfold Format.order
  cases h : double.read y with
  | nan s f => cases double.read x <;> rfl
  | number s m e => rw [h] at hy; cases hy
  | infinity s => rw [h] at hy; cases hy
end Go.Proofs.YtebjclmbacmilaaGreatDoor.Fl
