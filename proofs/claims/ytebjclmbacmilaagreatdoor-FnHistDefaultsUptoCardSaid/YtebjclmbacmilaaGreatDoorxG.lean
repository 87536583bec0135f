/- Plain laws of IEEE 754 words: 0 + x is x, whole numbers add exactly, a word that is no NaN equals itself. No conditions beside those typed. Plain laws of IEEE 754 words: words that are no NaN are ordered as whole numbers, sign and magnitude. No conditions beside those typed. Plain laws of the place of a number among increasing bounds: what a linear and a binary search find. Conditions: the bounds are numbers in increasing order. -/
import Derived.Laws.FloatArith
namespace Go.Proofs.YtebjclmbacmilaaGreatDoor.Fl
open Ieee

theorem cut_zero (neg : Bool) (n : Nat) : Toward.even.cut neg n 0 = n := by
  simp [Toward.cut, Nat.mod_one]

theorem cut_exact (neg : Bool) (n drop : Nat) (h : drop ≤ (n * 2 ^ drop).log2 + 2) : Toward.even.cut neg (n * 2 ^ drop) drop = n := by
  have hp : 0 < 2 ^ drop := Nat.two_pow_pos _
  unfold Toward.cut
  simp only [Nat.min_eq_left h, Nat.one_shiftLeft, Nat.mul_div_cancel _ hp, Nat.mul_mod_left]
  have h1 : decide (2 ^ drop < 2 * 0) = false := by simp
  have h2 : (2 ^ drop == 2 * 0) = false := by
    rw [beq_eq_false_iff_ne]; omega
  rw [h1, h2]; simp

/-- The word of a rung below infinity and of a sign. -/
theorem word_read_sub (x : Nat) (hx : x < 2 ^ 64) (h : x % 2 ^ 63 < 2 ^ 52) : double.write (double.read x) = x := by
  have e1 : double.signWeight = 2 ^ 63 := rfl
  have e2 : double.binade = 2 ^ 52 := rfl
  unfold Format.read
  simp only [e1, e2, h, if_true]
  unfold Format.write Format.nearest
  simp only
  have hw : ∀ r, r = x % 2 ^ 63 → double.word (x / 2 ^ 63 % 2 == 1) r = x := by
    intro r hr; subst hr; unfold Format.word; rw [e1]
    split
    · rename_i hb; simp at hb; omega
    · rename_i hb; simp at hb; omega
  split
  · rename_i h0; exact hw 0 h0.symm
  · rename_i h0
    have hl : (x % 2 ^ 63).log2 < 52 := (Nat.log2_lt h0).2 h
    have e3 : double.fractionBits = 52 := rfl
    have hlast : max (double.leastPlace + ((x % 2 ^ 63).log2 : Int) - (double.fractionBits : Int)) double.leastPlace = double.leastPlace := by
      rw [e3]; omega
    rw [hlast]
    simp only [Int.sub_self, Int.toNat_zero, Nat.shiftLeft_zero, cut_zero, Nat.zero_mul, Nat.zero_add]
    have e4 : double.infRung = 2047 * 2 ^ 52 := rfl
    rw [e4, Nat.min_eq_left (by omega)]
    exact hw _ rfl

theorem word_read_norm (x : Nat) (hx : x < 2 ^ 64) (h1 : ¬ x % 2 ^ 63 < 2 ^ 52) (h2 : x % 2 ^ 63 < 2047 * 2 ^ 52) : double.write (double.read x) = x := by
  have e1 : double.signWeight = 2 ^ 63 := rfl
  have e2 : double.binade = 2 ^ 52 := rfl
  have e4 : double.infRung = 2047 * 2 ^ 52 := rfl
  have e3 : double.fractionBits = 52 := rfl
  unfold Format.read
  simp only [e1, e2, e4, h1, h2, if_true, if_false]
  unfold Format.write Format.nearest
  simp only
  have hw : ∀ r, r = x % 2 ^ 63 → double.word (x / 2 ^ 63 % 2 == 1) r = x := by
    intro r hr; subst hr; unfold Format.word; rw [e1]
    split
    · rename_i hb; simp at hb; omega
    · rename_i hb; simp at hb; omega
  generalize hq : x % 2 ^ 63 = r at *
  have hm0 : ¬ (2 ^ 52 + r % 2 ^ 52 = 0) := by omega
  rw [if_neg hm0]
  have hlog : (2 ^ 52 + r % 2 ^ 52).log2 = 52 := by
    have hlt := Nat.mod_lt r (Nat.two_pow_pos 52)
    have a1 : (2 ^ 52 + r % 2 ^ 52).log2 < 53 := (Nat.log2_lt hm0).2 (by omega)
    have a2 : 52 ≤ (2 ^ 52 + r % 2 ^ 52).log2 := (Nat.le_log2 hm0).2 (by omega)
    omega
  rw [hlog, e3]
  have hlast : max (double.leastPlace + ((r / 2 ^ 52 - 1 : Nat) : Int) + ((52 : Nat) : Int) - ((52 : Nat) : Int)) double.leastPlace = double.leastPlace + ((r / 2 ^ 52 - 1 : Nat) : Int) := by omega
  rw [hlast]
  simp only [Int.sub_self, Int.toNat_zero, Nat.shiftLeft_zero, cut_zero, e2, e4]
  have e5 : (double.leastPlace + ((r / 2 ^ 52 - 1 : Nat) : Int) - double.leastPlace).toNat = r / 2 ^ 52 - 1 := by omega
  rw [e5]
  have e6 : (r / 2 ^ 52 - 1) * 2 ^ 52 + (2 ^ 52 + r % 2 ^ 52) = r := by
    have := Nat.div_add_mod r (2 ^ 52)
    have h3 : 1 ≤ r / 2 ^ 52 := (Nat.le_div_iff_mul_le (Nat.two_pow_pos 52)).2 (by omega)
    generalize r / 2 ^ 52 = d at *
    generalize 2 ^ 52 = B at *
    obtain ⟨d', rfl⟩ : ∃ d', d = d' + 1 := ⟨d - 1, by omega⟩
    rw [Nat.add_sub_cancel]
    rw [Nat.mul_comm, Nat.add_mul, Nat.one_mul] at this
    omega
  rw [e6, Nat.min_eq_left (by omega)]
  exact hw _ rfl

theorem word_read (x : Nat) (hx : x < 2 ^ 64) (h : x % 2 ^ 63 < 2047 * 2 ^ 52) : double.write (double.read x) = x := by
  by_cases h1 : x % 2 ^ 63 < 2 ^ 52
  · exact word_read_sub x hx h1
  · exact word_read_norm x hx h1 h

/-- The finite words. -/
theorem read_number {x : Nat} {s : Bool} {m : Nat} {e : Int} (h : double.read x = .number s m e) : x % 2 ^ 63 < 2047 * 2 ^ 52 := by
  have e1 : double.signWeight = 2 ^ 63 := rfl
  have e2 : double.binade = 2 ^ 52 := rfl
  have e4 : double.infRung = 2047 * 2 ^ 52 := rfl
  unfold Format.read at h
  simp only [e1, e2, e4] at h
  split at h
  · omega
  · split at h
    · omega
    · split at h <;> cases h

theorem write_read_number {x : Nat} (hx : x < 2 ^ 64) {s : Bool} {m : Nat} {e : Int} (h : double.read x = .number s m e) : double.write (.number s m e) = x := by
  rw [← h]; exact word_read x hx (read_number h)

theorem write_read_inf {x : Nat} (hx : x < 2 ^ 64) {s : Bool} (h : double.read x = .infinity s) : double.write (.infinity s) = x := by
  have e1 : double.signWeight = 2 ^ 63 := rfl
  have e2 : double.binade = 2 ^ 52 := rfl
  have e4 : double.infRung = 2047 * 2 ^ 52 := rfl
  unfold Format.read at h
  simp only [e1, e2, e4] at h
  split at h
  · cases h
  · split at h
    · cases h
    · split at h
      · rename_i he
        have hs : (x / 2 ^ 63 % 2 == 1) = s := by simpa using h
        show double.word s double.infRung = x
        unfold Format.word
        rw [e1, e4, ← hs]
        split
        · rename_i hb; simp at hb; omega
        · rename_i hb; simp at hb; omega
      · cases h

/-- The mantissa of what is read is small, and no place is below the least one. -/
theorem read_place {x : Nat} {s : Bool} {m : Nat} {e : Int} (h : double.read x = .number s m e) : double.leastPlace ≤ e := by
  have e1 : double.signWeight = 2 ^ 63 := rfl
  have e2 : double.binade = 2 ^ 52 := rfl
  have e4 : double.infRung = 2047 * 2 ^ 52 := rfl
  unfold Format.read at h
  simp only [e1, e2, e4] at h
  split at h
  · cases h; omega
  · split at h
    · cases h; omega
    · split at h <;> cases h

theorem read_zero {x : Nat} (hx : x < 2 ^ 64) {s : Bool} {e : Int} (h : double.read x = .number s 0 e) : x = if s then 2 ^ 63 else 0 := by
  have hw := write_read_number hx h
  rw [← hw]
  show double.nearest s 0 e = _
  unfold Format.nearest
  rw [if_pos rfl]
  unfold Format.word
  have e1 : double.signWeight = 2 ^ 63 := rfl
  rw [e1]

theorem log2_mul_two_pow (m k : Nat) (hm : m ≠ 0) : (m * 2 ^ k).log2 = m.log2 + k := by
  have hp : 0 < 2 ^ k := Nat.two_pow_pos _
  have hne : m * 2 ^ k ≠ 0 := Nat.mul_ne_zero hm (by omega)
  have h1 : (m * 2 ^ k).log2 < m.log2 + k + 1 := by
    refine (Nat.log2_lt hne).2 ?_
    have : m < 2 ^ (m.log2 + 1) := (Nat.log2_lt hm).1 (Nat.lt_succ_self _)
    rw [show m.log2 + k + 1 = (m.log2 + 1) + k by omega, Nat.pow_add]
    exact Nat.mul_lt_mul_of_pos_right this hp
  have h2 : m.log2 + k ≤ (m * 2 ^ k).log2 := by
    refine (Nat.le_log2 hne).2 ?_
    have : 2 ^ m.log2 ≤ m := (Nat.le_log2 hm).1 (Nat.le_refl _)
    rw [Nat.pow_add]
    exact Nat.mul_le_mul_right _ this
  omega

theorem cut_scale (neg : Bool) (m d k : Nat) (hm : m ≠ 0) : Toward.even.cut neg (m * 2 ^ k) (d + k) = Toward.even.cut neg m d := by
  have hp : 0 < 2 ^ k := Nat.two_pow_pos _
  unfold Toward.cut
  rw [log2_mul_two_pow m k hm]
  have hg : 1 <<< min (d + k) (m.log2 + k + 2) = (1 <<< min d (m.log2 + 2)) * 2 ^ k := by
    rw [Nat.one_shiftLeft, Nat.one_shiftLeft, ← Nat.pow_add]; congr 1; omega
  rw [hg]
  generalize 1 <<< min d (m.log2 + 2) = g
  simp only [Nat.mul_div_mul_right _ _ hp, Nat.mul_mod_mul_right]
  have h1 : decide (g * 2 ^ k < 2 * (m % g * 2 ^ k)) = decide (g < 2 * (m % g)) := by
    rw [← Nat.mul_assoc]; exact decide_eq_decide.2 (Nat.mul_lt_mul_right hp)
  have h2 : (g * 2 ^ k == 2 * (m % g * 2 ^ k)) = (g == 2 * (m % g)) := by
    rw [← Nat.mul_assoc, Bool.eq_iff_iff, beq_iff_eq, beq_iff_eq]
    exact ⟨fun h => Nat.eq_of_mul_eq_mul_right hp h, fun h => congrArg (· * 2 ^ k) h⟩
  rw [h1, h2]

/-- To round is to round the value: the digits may be counted from elsewhere. -/
theorem nearest_shift (f : Format) (neg : Bool) (m k : Nat) (p : Int) : f.nearest neg (m * 2 ^ k) p = f.nearest neg m (p + k) := by
  have hp : 0 < 2 ^ k := Nat.two_pow_pos _
  unfold Format.nearest
  by_cases hm : m = 0
  · subst hm; simp
  have hne : m * 2 ^ k ≠ 0 := Nat.mul_ne_zero hm (by omega)
  rw [if_neg hne, if_neg hm, log2_mul_two_pow m k hm]
  have hlast : max (p + ((m.log2 + k : Nat) : Int) - (f.fractionBits : Int)) f.leastPlace = max (p + (k : Int) + (m.log2 : Int) - (f.fractionBits : Int)) f.leastPlace := by
    congr 1; omega
  rw [hlast]
  simp only
  generalize hL : max (p + (k : Int) + (m.log2 : Int) - (f.fractionBits : Int)) f.leastPlace = L
  suffices h : Toward.even.cut neg ((m * 2 ^ k) <<< (p - L).toNat) (L - p).toNat = Toward.even.cut neg (m <<< (p + k - L).toNat) (L - (p + k)).toNat by rw [h]
  by_cases h1 : L ≤ p
  · have a1 : (L - p).toNat = 0 := by omega
    have a2 : (L - (p + k)).toNat = 0 := by omega
    rw [a1, a2, cut_zero, cut_zero, Nat.shiftLeft_eq, Nat.shiftLeft_eq, Nat.mul_assoc, ← Nat.pow_add]
    congr 2; omega
  · by_cases h2 : p + k ≤ L
    · have a1 : (p - L).toNat = 0 := by omega
      have a2 : (p + k - L).toNat = 0 := by omega
      rw [a1, a2, Nat.shiftLeft_zero, Nat.shiftLeft_zero]
      have a3 : (L - p).toNat = (L - (p + k)).toNat + k := by omega
      rw [a3, cut_scale neg m _ k hm]
    · have a1 : (p - L).toNat = 0 := by omega
      have a2 : (L - (p + k)).toNat = 0 := by omega
      rw [a1, a2, Nat.shiftLeft_zero, cut_zero, Nat.shiftLeft_eq]
      obtain ⟨u, hu⟩ : ∃ u, u = (L - p).toNat := ⟨_, rfl⟩
      obtain ⟨v, hv⟩ : ∃ v, v = (p + k - L).toNat := ⟨_, rfl⟩
      rw [← hu, ← hv]
      have hk : k = v + u := by omega
      rw [hk, Nat.pow_add, ← Nat.mul_assoc]
      refine cut_exact neg _ u ?_
      rw [log2_mul_two_pow _ u (Nat.mul_ne_zero hm (by have := Nat.two_pow_pos v; omega))]
      omega

theorem signed_natAbs (s : Bool) (m k : Nat) : (signed s m k).natAbs = m * 2 ^ k := by
  unfold signed
  rw [Nat.shiftLeft_eq]
  cases s
  · simp only [Bool.false_eq_true, if_false, Int.natAbs_natCast]
  · simp only [if_true, Int.natAbs_neg, Int.natAbs_natCast]

theorem signed_neg (s : Bool) (m k : Nat) (hm : m ≠ 0) : decide (signed s m k < 0) = s := by
  have hp : 0 < m * 2 ^ k := Nat.mul_pos (by omega) (Nat.two_pow_pos _)
  unfold signed
  rw [Nat.shiftLeft_eq]
  generalize m * 2 ^ k = n at *
  cases s
  · simp only [Bool.false_eq_true, if_false, decide_eq_false_iff_not]; omega
  · simp only [if_true, decide_eq_true_eq]; omega

/-- 0 + x is x, but for the negative zero. -/
theorem zero_add_word {x : Nat} (hx : x < 2 ^ 64) (hn : x ≠ 2 ^ 63) (hnan : (double.read x).isNaN = false) : double.add 0 x = some x := by
  have h0 : double.read 0 = .number false 0 double.leastPlace := by decide +kernel
  unfold Format.add
  rw [h0]
  cases hr : double.read x with
  | nan s f => rw [hr] at hnan; cases hnan
  | infinity s => simp only [Datum.sum, Option.map_some, write_read_inf hx hr]
  | number s m e =>
    have hp := read_place hr
    have hmin : min double.leastPlace e = double.leastPlace := by omega
    simp only [Datum.sum, hmin, Option.map_some, Option.some.injEq]
    by_cases hm : m = 0
    · subst hm
      have hz := read_zero hx hr
      have hs : s = false := by
        cases s with
        | false => rfl
        | true => exact (hn (by simpa using hz)).elim
      subst hs
      simp only [signed, Bool.false_eq_true, if_false, Nat.zero_shiftLeft] at hz ⊢
      rw [hz]
      decide +kernel
    · have hsz : signed false 0 (double.leastPlace - double.leastPlace).toNat = 0 := by simp [signed]
      rw [hsz, Int.zero_add]
      have hne : ¬ signed s m (e - double.leastPlace).toNat = 0 := by
        intro h
        have := signed_natAbs s m (e - double.leastPlace).toNat
        rw [h] at this
        have hp : 0 < m * 2 ^ (e - double.leastPlace).toNat := Nat.mul_pos (by omega) (Nat.two_pow_pos _)
        simp at this; omega
      rw [if_neg hne, signed_neg _ _ _ hm, signed_natAbs]
      show double.nearest s _ _ = x
      rw [nearest_shift]
      have : double.leastPlace + ((e - double.leastPlace).toNat : Int) = e := by omega
      rw [this]
      exact write_read_number hx hr

/-- The word of a whole number. -/
def enc (n : Int) : Nat := double.write (.number (n < 0) n.natAbs 0)

theorem enc_lt (n : Int) : enc n < 2 ^ 64 := double.write_lt _

/-- Words whose reading is the whole number n: a number with n's sign and value. -/
def Reads (x : Nat) (n : Int) : Prop := ∃ m k : Nat, double.read x = .number (decide (n < 0)) m (-(k : Int)) ∧ n.natAbs * 2 ^ k = m

theorem enc_reads (n : Int) (h : n.natAbs < 2 ^ 53) : Reads (enc n) n := by
  by_cases h0 : n = 0
  · subst h0
    obtain ⟨k, hk⟩ : ∃ k : Nat, -(k : Int) = -1074 := ⟨1074, rfl⟩
    exact ⟨0, k, by rw [hk]; decide +kernel, by rw [Int.natAbs_zero, Nat.zero_mul]⟩
  obtain ⟨m, hm⟩ : ∃ m, m = n.natAbs := ⟨_, rfl⟩
  have hm0 : m ≠ 0 := by omega
  have hm1 : m < 2 ^ 53 := by omega
  have e1 : double.signWeight = 2 ^ 63 := rfl
  have e2 : double.binade = 2 ^ 52 := rfl
  have e3 : double.fractionBits = 52 := rfl
  have e4 : double.infRung = 2047 * 2 ^ 52 := rfl
  have e5 : double.leastPlace = -1074 := rfl
  obtain ⟨L, hL⟩ : ∃ L, L = m.log2 := ⟨_, rfl⟩
  have hL1 : L < 53 := by rw [hL]; exact (Nat.log2_lt hm0).2 hm1
  have hlo : 2 ^ L ≤ m := by rw [hL]; exact (Nat.le_log2 hm0).1 (Nat.le_refl _)
  have hhi : m < 2 ^ (L + 1) := by rw [hL]; exact (Nat.log2_lt hm0).1 (Nat.lt_succ_self _)
  obtain ⟨K, hK⟩ : ∃ K, K = m * 2 ^ (52 - L) := ⟨_, rfl⟩
  have hK1 : 2 ^ 52 ≤ K := by
    rw [hK, show 2 ^ 52 = 2 ^ L * 2 ^ (52 - L) by rw [← Nat.pow_add]; congr 1; omega]
    exact Nat.mul_le_mul_right _ hlo
  have hK2 : K < 2 ^ 53 := by
    rw [hK, show 2 ^ 53 = 2 ^ (L + 1) * 2 ^ (52 - L) by rw [← Nat.pow_add]; congr 1; omega]
    exact Nat.mul_lt_mul_of_pos_right hhi (Nat.two_pow_pos _)
  have henc : enc n = double.word (decide (n < 0)) ((L + 1022) * 2 ^ 52 + K) := by
    show double.nearest (decide (n < 0)) n.natAbs 0 = _
    unfold Format.nearest
    rw [← hm, if_neg hm0, ← hL, e3, e5]
    have hlast : max ((0 : Int) + (L : Int) - ((52 : Nat) : Int)) (-1074) = (L : Int) - 52 := by omega
    rw [hlast]
    simp only
    have a1 : ((L : Int) - 52 - 0).toNat = 0 := by omega
    have a2 : (0 - ((L : Int) - 52)).toNat = 52 - L := by omega
    have a3 : ((L : Int) - 52 - -1074).toNat = L + 1022 := by omega
    rw [a1, a2, a3, cut_zero, Nat.shiftLeft_eq, ← hK, e2, e4, Nat.min_eq_left (by omega)]
  have hr : ∀ b : Bool, (double.word b ((L + 1022) * 2 ^ 52 + K) / 2 ^ 63 % 2 == 1) = b ∧ double.word b ((L + 1022) * 2 ^ 52 + K) % 2 ^ 63 = (L + 1022) * 2 ^ 52 + K := by
    intro b
    unfold Format.word
    rw [e1]
    cases b
    · simp only [Bool.false_eq_true, if_false]
      constructor
      · simp only [beq_eq_false_iff_ne]; omega
      · omega
    · simp only [if_true]
      constructor
      · simp only [beq_iff_eq]; omega
      · omega
  refine ⟨K, 52 - L, ?_, by rw [← hm, hK]⟩
  rw [henc]
  unfold Format.read
  rw [e1, e2, e4, e5, (hr _).1, (hr _).2]
  simp only
  rw [if_neg (by omega), if_pos (by omega)]
  congr 1
  · omega
  · omega

theorem add_reads {x y : Nat} {a b : Int} (hx : Reads x a) (hy : Reads y b) : double.add x y = some (enc (a + b)) := by
  obtain ⟨m, k, hx, hm⟩ := hx
  obtain ⟨n, l, hy, hn⟩ := hy
  unfold Format.add
  rw [hx, hy]
  simp only [Datum.sum, Option.map_some, Option.some.injEq]
  have sg : ∀ (c : Int) (q r : Nat) (j : Nat), c.natAbs * 2 ^ q = r → signed (decide (c < 0)) r j = c * 2 ^ (q + j) := by
    intro c q r j hc
    subst hc
    unfold signed
    rw [Nat.shiftLeft_eq, Nat.mul_assoc, ← Nat.pow_add]
    by_cases hc : c < 0
    · rw [if_pos (by simpa using hc)]
      have : ((c.natAbs : Nat) : Int) = -c := by omega
      rw [Int.natCast_mul, this, Int.natCast_pow, Int.neg_mul, Int.neg_neg]; rfl
    · rw [if_neg (by simpa using hc)]
      have : ((c.natAbs : Nat) : Int) = c := by omega
      rw [Int.natCast_mul, this, Int.natCast_pow]; simp
  obtain ⟨N, hN⟩ : ∃ N : Nat, min (-(k : Int)) (-(l : Int)) = -(N : Int) ∧ k ≤ N ∧ l ≤ N := ⟨max k l, by omega, by omega, by omega⟩
  obtain ⟨hN, hk, hl⟩ := hN
  rw [hN]
  have e1 : (-(k : Int) - -(N : Int)).toNat = N - k := by omega
  have e2 : (-(l : Int) - -(N : Int)).toNat = N - l := by omega
  rw [e1, e2, sg a k m (N - k) hm, sg b l n (N - l) hn]
  rw [show k + (N - k) = N by omega, show l + (N - l) = N by omega, ← Int.add_mul]
  have hpos : (0 : Int) < 2 ^ N := by exact Int.pow_pos (by decide)
  have hz : ((a + b) * 2 ^ N = 0) ↔ a + b = 0 := by
    constructor
    · intro h
      rcases Int.mul_eq_zero.1 h with h | h
      · exact h
      · omega
    · intro h; rw [h]; simp
  have hlt : ((a + b) * 2 ^ N < 0) ↔ a + b < 0 := by
    constructor
    · intro h
      rcases Int.lt_or_le (a + b) 0 with h' | h'
      · exact h'
      · exact absurd (Int.mul_nonneg h' (Int.le_of_lt hpos)) (by omega)
    · intro h; exact Int.mul_neg_of_neg_of_pos h hpos
  have hab : ((a + b) * 2 ^ N).natAbs = (a + b).natAbs * 2 ^ N := by
    rw [Int.natAbs_mul, Int.natAbs_pow]; rfl
  rw [hab]
  show double.nearest _ _ _ = double.nearest _ _ _
  rw [nearest_shift, show -(N : Int) + (N : Int) = 0 by omega]
  by_cases h0 : a + b = 0
  · rw [if_pos (hz.2 h0), h0]
    simp only [Int.natAbs_zero, Format.nearest, if_true]
    have : (decide (a < 0) && decide (b < 0)) = decide ((0 : Int) < 0) := by
      by_cases ha : a < 0
      · have : ¬ b < 0 := by omega
        simp [this]
      · simp [ha]
    rw [this]
  · rw [if_neg (fun h => h0 (hz.1 h))]
    congr 1
    exact decide_eq_decide.2 hlt

theorem order_self {x : Nat} (h : (double.read x).isNaN = false) : double.order x x = some .eq := by
  unfold Format.order
  cases hr : double.read x with
  | nan s f => rw [hr] at h; cases h
  | infinity s => simp [Datum.order]
  | number s m e => simp [Datum.order]
end Go.Proofs.YtebjclmbacmilaaGreatDoor.Fl

namespace Go.Proofs.YtebjclmbacmilaaGreatDoor.Fl
open Ieee

def rung (x : Nat) : Nat := x % 2 ^ 63
def sgn (x : Nat) : Bool := x / 2 ^ 63 % 2 == 1
/-- The place of a word among the words that are no NaN; the two zeros share one. -/
def key (x : Nat) : Int := if sgn x then -(rung x : Int) else (rung x : Int)
def isNaN (x : Nat) : Bool := (double.read x).isNaN

def val (r : Nat) : Nat := if r < 2 ^ 52 then r else (2 ^ 52 + r % 2 ^ 52) * 2 ^ (r / 2 ^ 52 - 1)

theorem isNaN_iff (x : Nat) : isNaN x = decide (2047 * 2 ^ 52 < rung x) := by
  have e1 : double.signWeight = 2 ^ 63 := rfl
  have e2 : double.binade = 2 ^ 52 := rfl
  have e4 : double.infRung = 2047 * 2 ^ 52 := rfl
  unfold isNaN Format.read rung
  simp only [e1, e2, e4]
  split
  · rename_i h; simp only [Datum.isNaN]; symm; rw [decide_eq_false_iff_not]; omega
  · split
    · simp only [Datum.isNaN]; symm; rw [decide_eq_false_iff_not]; omega
    · split
      · simp only [Datum.isNaN]; symm; rw [decide_eq_false_iff_not]; omega
      · simp only [Datum.isNaN]; symm; rw [decide_eq_true_eq]; omega

theorem read_val {x : Nat} (h : rung x < 2047 * 2 ^ 52) : ∃ m k : Nat, double.read x = .number (sgn x) m (double.leastPlace + k) ∧ m * 2 ^ k = val (rung x) := by
  have e1 : double.signWeight = 2 ^ 63 := rfl
  have e2 : double.binade = 2 ^ 52 := rfl
  have e4 : double.infRung = 2047 * 2 ^ 52 := rfl
  unfold rung at h
  unfold Format.read
  simp only [e1, e2, e4]
  by_cases h1 : x % 2 ^ 63 < 2 ^ 52
  · rw [if_pos h1]
    refine ⟨x % 2 ^ 63, 0, by simp [sgn], ?_⟩
    unfold val rung
    rw [if_pos h1, Nat.pow_zero, Nat.mul_one]
  · rw [if_neg h1, if_pos h]
    refine ⟨2 ^ 52 + x % 2 ^ 63 % 2 ^ 52, x % 2 ^ 63 / 2 ^ 52 - 1, rfl, ?_⟩
    unfold val rung
    rw [if_neg h1]

theorem read_inf {x : Nat} (h : rung x = 2047 * 2 ^ 52) : double.read x = .infinity (sgn x) := by
  have e1 : double.signWeight = 2 ^ 63 := rfl
  have e2 : double.binade = 2 ^ 52 := rfl
  have e4 : double.infRung = 2047 * 2 ^ 52 := rfl
  unfold rung at h
  unfold Format.read
  simp only [e1, e2, e4]
  rw [if_neg (by omega), if_neg (by omega), if_pos h]
  rfl

theorem val_succ (r : Nat) : val r < val (r + 1) := by
  unfold val
  by_cases h1 : r + 1 < 2 ^ 52
  · rw [if_pos (by omega), if_pos h1]; omega
  · rw [if_neg h1]
    by_cases h2 : r < 2 ^ 52
    · rw [if_pos h2]
      have e : r + 1 = 2 ^ 52 := by omega
      rw [e]
      have : (2 ^ 52 + 2 ^ 52 % 2 ^ 52) * 2 ^ (2 ^ 52 / 2 ^ 52 - 1) = 2 ^ 52 := by decide +kernel
      rw [this]; omega
    · rw [if_neg h2]
      obtain ⟨q, hq⟩ : ∃ q, q = r / 2 ^ 52 := ⟨_, rfl⟩
      obtain ⟨t, ht⟩ : ∃ t, t = r % 2 ^ 52 := ⟨_, rfl⟩
      have htl : t < 2 ^ 52 := by rw [ht]; exact Nat.mod_lt _ (Nat.two_pow_pos _)
      have hr : r = q * 2 ^ 52 + t := by rw [hq, ht]; have := Nat.div_add_mod r (2 ^ 52); omega
      have hq1 : 1 ≤ q := by rw [hq]; exact (Nat.le_div_iff_mul_le (Nat.two_pow_pos 52)).2 (by omega)
      by_cases h3 : t + 1 < 2 ^ 52
      · have a1 : (r + 1) / 2 ^ 52 = q := by omega
        have a2 : (r + 1) % 2 ^ 52 = t + 1 := by omega
        rw [a1, a2, ← hq, ← ht]
        exact Nat.mul_lt_mul_of_pos_right (by omega) (Nat.two_pow_pos _)
      · have a1 : (r + 1) / 2 ^ 52 = q + 1 := by omega
        have a2 : (r + 1) % 2 ^ 52 = 0 := by omega
        rw [a1, a2, ← hq, ← ht]
        obtain ⟨p, rfl⟩ : ∃ p, q = p + 1 := ⟨q - 1, by omega⟩
        have e3 : 2 ^ (p + 1) = 2 ^ p * 2 := Nat.pow_succ ..
        rw [Nat.add_sub_cancel, Nat.add_sub_cancel, e3]
        have hp : 0 < 2 ^ p := Nat.two_pow_pos _
        have : (2 ^ 52 + 0) * (2 ^ p * 2) = (2 ^ 52 + 2 ^ 52) * 2 ^ p := by
          generalize 2 ^ p = z; omega
        rw [this]
        exact Nat.mul_lt_mul_of_pos_right (by omega) hp

theorem val_lt {r s : Nat} (h : r < s) : val r < val s := by
  induction s with
  | zero => omega
  | succ s ih =>
    rcases Nat.lt_or_ge r s with h' | h'
    · exact Nat.lt_trans (ih h') (val_succ s)
    · have : r = s := by omega
      subst this; exact val_succ r

theorem val_le {r s : Nat} (h : r ≤ s) : val r ≤ val s := by
  rcases Nat.lt_or_ge r s with h' | h'
  · exact Nat.le_of_lt (val_lt h')
  · have : r = s := by omega
    subst this; exact Nat.le_refl _

theorem val_zero : val 0 = 0 := rfl

theorem compare_scale (a b : Int) (k : Nat) : compare (a * 2 ^ k) (b * 2 ^ k) = compare a b := by
  have hpos : (0 : Int) < 2 ^ k := Int.pow_pos (by decide)
  rcases Int.lt_trichotomy a b with h | h | h
  · rw [Int.compare_eq_lt.2 h, Int.compare_eq_lt]
    exact Int.mul_lt_mul_of_pos_right h hpos
  · rw [h]; simp
  · rw [Int.compare_eq_gt.2 h, Int.compare_eq_gt]
    exact Int.mul_lt_mul_of_pos_right h hpos

def sval (s : Bool) (v : Nat) : Int := if s then -(v : Int) else (v : Int)

theorem signed_scale (s : Bool) (m j k : Nat) : signed s m j * 2 ^ k = sval s (m * 2 ^ (j + k)) := by
  unfold signed sval
  rw [Nat.shiftLeft_eq, Nat.pow_add, ← Nat.mul_assoc]
  cases s
  · simp only [Bool.false_eq_true, if_false]; rw [Int.natCast_mul (m * 2 ^ j), Int.natCast_pow]; rfl
  · simp only [if_true]; rw [Int.natCast_mul (m * 2 ^ j), Int.natCast_pow, Int.neg_mul]; rfl

theorem compare_sval (s t : Bool) (r q : Nat) : compare (sval s (val r)) (sval t (val q)) = compare (sval s r) (sval t q) := by
  have h0 : ∀ r, 0 < r → 0 < val r := fun r h => by have := val_lt h; rw [val_zero] at this; exact this
  unfold sval
  rcases Nat.lt_trichotomy r q with h | h | h
  · have hv := val_lt h
    have hq := h0 q (by omega)
    cases s <;> cases t <;> simp only [Bool.false_eq_true, if_false, if_true]
    · rw [Int.compare_eq_lt.2 (by omega), Int.compare_eq_lt.2 (by omega)]
    · rw [Int.compare_eq_gt.2 (by omega), Int.compare_eq_gt.2 (by omega)]
    · rw [Int.compare_eq_lt.2 (by omega), Int.compare_eq_lt.2 (by omega)]
    · rw [Int.compare_eq_gt.2 (by omega), Int.compare_eq_gt.2 (by omega)]
  · subst h
    rcases Nat.eq_zero_or_pos r with h | h
    · subst h; rw [val_zero]
    · have := h0 r h
      cases s <;> cases t <;> simp only [Bool.false_eq_true, if_false, if_true]
      · simp
      · rw [Int.compare_eq_gt.2 (by omega), Int.compare_eq_gt.2 (by omega)]
      · rw [Int.compare_eq_lt.2 (by omega), Int.compare_eq_lt.2 (by omega)]
      · simp
  · have hv := val_lt h
    have hq := h0 r (by omega)
    cases s <;> cases t <;> simp only [Bool.false_eq_true, if_false, if_true]
    · rw [Int.compare_eq_gt.2 (by omega), Int.compare_eq_gt.2 (by omega)]
    · rw [Int.compare_eq_gt.2 (by omega), Int.compare_eq_gt.2 (by omega)]
    · rw [Int.compare_eq_lt.2 (by omega), Int.compare_eq_lt.2 (by omega)]
    · rw [Int.compare_eq_lt.2 (by omega), Int.compare_eq_lt.2 (by omega)]

/-- Words that are no NaN are ordered by their keys. -/
theorem order_key {x y : Nat} (hx : isNaN x = false) (hy : isNaN y = false) : double.order x y = some (compare (key x) (key y)) := by
  rw [isNaN_iff, decide_eq_false_iff_not] at hx hy
  have hk : ∀ z, key z = sval (sgn z) (rung z) := fun _ => rfl
  rw [hk, hk]
  unfold Format.order
  by_cases hx1 : rung x = 2047 * 2 ^ 52
  · rw [read_inf hx1]
    by_cases hy1 : rung y = 2047 * 2 ^ 52
    · rw [read_inf hy1, hx1, hy1]
      cases sgn x <;> cases sgn y <;> decide +kernel
    · obtain ⟨n, l, hr, _⟩ := read_val (x := y) (by omega)
      rw [hr, hx1]
      simp only [Datum.order, Option.some.injEq, sval]
      cases sgn x <;> cases sgn y <;> simp only [Bool.false_eq_true, if_false, if_true]
      · exact (Int.compare_eq_gt.2 (by omega)).symm
      · exact (Int.compare_eq_gt.2 (by omega)).symm
      · exact (Int.compare_eq_lt.2 (by omega)).symm
      · exact (Int.compare_eq_lt.2 (by omega)).symm
  · obtain ⟨m, k, hr, hm⟩ := read_val (x := x) (by omega)
    rw [hr]
    by_cases hy1 : rung y = 2047 * 2 ^ 52
    · rw [read_inf hy1, hy1]
      simp only [Datum.order, Option.some.injEq, sval]
      cases sgn x <;> cases sgn y <;> simp only [Bool.false_eq_true, if_false, if_true]
      · exact (Int.compare_eq_lt.2 (by omega)).symm
      · exact (Int.compare_eq_gt.2 (by omega)).symm
      · exact (Int.compare_eq_lt.2 (by omega)).symm
      · exact (Int.compare_eq_gt.2 (by omega)).symm
    · obtain ⟨n, l, hr', hn⟩ := read_val (x := y) (by omega)
      rw [hr']
      simp only [Datum.order, Option.some.injEq]
      rw [← compare_sval, ← hm, ← hn]
      have eb : min (double.leastPlace + (k : Int)) (double.leastPlace + (l : Int)) = double.leastPlace + (min k l : Nat) := by omega
      rw [eb]
      have e1 : (double.leastPlace + (k : Int) - (double.leastPlace + (min k l : Nat))).toNat = k - min k l := by omega
      have e2 : (double.leastPlace + (l : Int) - (double.leastPlace + (min k l : Nat))).toNat = l - min k l := by omega
      rw [e1, e2, ← compare_scale _ _ (min k l), signed_scale, signed_scale]
      rw [show k - min k l + min k l = k by omega, show l - min k l + min k l = l by omega]

theorem order_nan_left {x y : Nat} (hx : isNaN x = true) : double.order x y = none := by
  unfold isNaN at hx; unfold Format.order
  cases h : double.read x with
  | nan s f => rfl
  | number s m e => rw [h] at hx; cases hx
  | infinity s => rw [h] at hx; cases hx
theorem order_nan_right {x y : Nat} (hy : isNaN y = true) : double.order x y = none := by
  unfold isNaN at hy; unfold Format.order
  cases h : double.read y with
  | nan s f => cases double.read x <;> rfl
  | number s m e => rw [h] at hy; cases hy
  | infinity s => rw [h] at hy; cases hy
end Go.Proofs.YtebjclmbacmilaaGreatDoor.Fl

namespace Go.Proofs.YtebjclmbacmilaaGreatDoor
open Fl

def fle (x y : Nat) : Bool := FloatKind.f64.format.order x y == some .lt || FloatKind.f64.format.order x y == some .eq
def fge (x y : Nat) : Bool := FloatKind.f64.format.order x y == some .gt || FloatKind.f64.format.order x y == some .eq
def fgt (x y : Nat) : Bool := FloatKind.f64.format.order x y == some .gt
def flt (x y : Nat) : Bool := FloatKind.f64.format.order x y == some .lt
def feq (x y : Nat) : Bool := FloatKind.f64.format.order x y == some .eq

theorem ord_eq (x y : Nat) : FloatKind.f64.format.order x y = if isNaN x || isNaN y then none else some (compare (key x) (key y)) := by
  show Ieee.double.order x y = _
  cases hx : isNaN x
  · cases hy : isNaN y
    · rw [order_key hx hy]; rfl
    · rw [order_nan_right hy]; rfl
  · rw [order_nan_left hx]; rfl

theorem fle_iff (x y : Nat) : fle x y = true ↔ isNaN x = false ∧ isNaN y = false ∧ key x ≤ key y := by
  unfold fle; rw [ord_eq]
  cases isNaN x
  · cases isNaN y
    · simp only [Bool.or_self, Bool.false_eq_true, if_false, true_and]
      rcases Int.lt_trichotomy (key x) (key y) with h | h | h
      · rw [Int.compare_eq_lt.2 h]; simp; omega
      · rw [Int.compare_eq_eq.2 h]; simp; omega
      · rw [Int.compare_eq_gt.2 h]; simp; omega
    · simp
  · simp
theorem fge_iff (x y : Nat) : fge x y = true ↔ isNaN x = false ∧ isNaN y = false ∧ key y ≤ key x := by
  unfold fge; rw [ord_eq]
  cases isNaN x
  · cases isNaN y
    · simp only [Bool.or_self, Bool.false_eq_true, if_false, true_and]
      rcases Int.lt_trichotomy (key x) (key y) with h | h | h
      · rw [Int.compare_eq_lt.2 h]; simp; omega
      · rw [Int.compare_eq_eq.2 h]; simp; omega
      · rw [Int.compare_eq_gt.2 h]; simp; omega
    · simp
  · simp
theorem fgt_iff (x y : Nat) : fgt x y = true ↔ isNaN x = false ∧ isNaN y = false ∧ key y < key x := by
  unfold fgt; rw [ord_eq]
  cases isNaN x
  · cases isNaN y
    · simp only [Bool.or_self, Bool.false_eq_true, if_false, true_and]
      rcases Int.lt_trichotomy (key x) (key y) with h | h | h
      · rw [Int.compare_eq_lt.2 h]; simp; omega
      · rw [Int.compare_eq_eq.2 h]; simp; omega
      · rw [Int.compare_eq_gt.2 h]; simp; omega
    · simp
  · simp
theorem flt_iff (x y : Nat) : flt x y = true ↔ isNaN x = false ∧ isNaN y = false ∧ key x < key y := by
  unfold flt; rw [ord_eq]
  cases isNaN x
  · cases isNaN y
    · simp only [Bool.or_self, Bool.false_eq_true, if_false, true_and]
      rcases Int.lt_trichotomy (key x) (key y) with h | h | h
      · rw [Int.compare_eq_lt.2 h]; simp; omega
      · rw [Int.compare_eq_eq.2 h]; simp; omega
      · rw [Int.compare_eq_gt.2 h]; simp; omega
    · simp
  · simp
theorem feq_iff (x y : Nat) : feq x y = true ↔ isNaN x = false ∧ isNaN y = false ∧ key x = key y := by
  unfold feq; rw [ord_eq]
  cases isNaN x
  · cases isNaN y
    · simp only [Bool.or_self, Bool.false_eq_true, if_false, true_and]
      rcases Int.lt_trichotomy (key x) (key y) with h | h | h
      · rw [Int.compare_eq_lt.2 h]; simp; omega
      · rw [Int.compare_eq_eq.2 h]; simp; omega
      · rw [Int.compare_eq_gt.2 h]; simp; omega
    · simp
  · simp
theorem fge_fle (x y : Nat) : fge x y = fle y x := by
  rw [Bool.eq_iff_iff, fge_iff, fle_iff]
  exact ⟨fun ⟨a, b, c⟩ => ⟨b, a, c⟩, fun ⟨a, b, c⟩ => ⟨b, a, c⟩⟩

/-- Numbers in strictly increasing order. -/
def Incr (bs : List Nat) : Prop := (∀ b ∈ bs, isNaN b = false) ∧ ∀ i j, i < j → j < bs.length → key (bs.getD i 0) < key (bs.getD j 0)

/-- The first bound that is not less than v; the number of bounds, if there is none. -/
def place (bs : List Nat) (v : Nat) : Nat := bs.findIdx (fle v)

theorem place_le (bs : List Nat) (v : Nat) : place bs v ≤ bs.length := List.findIdx_le_length

theorem getD_mem (bs : List Nat) (i : Nat) (h : i < bs.length) : bs.getD i 0 ∈ bs := by
  rw [List.getD_eq_getElem?_getD, List.getElem?_eq_getElem h]; exact List.getElem_mem h

theorem getD_get (bs : List Nat) (i : Nat) (h : i < bs.length) : bs[i] = bs.getD i 0 := by
  rw [List.getD_eq_getElem?_getD, List.getElem?_eq_getElem h]; rfl

theorem place_of {bs : List Nat} {v r : Nat} (hr : r ≤ bs.length) (hlo : ∀ k, k < r → fle v (bs.getD k 0) = false) (hhi : r < bs.length → fle v (bs.getD r 0) = true) : place bs v = r := by
  unfold place
  rcases Nat.lt_or_ge r bs.length with h | h
  · rw [List.findIdx_eq h]
    refine ⟨by rw [getD_get]; exact hhi h, fun j hj => by rw [getD_get]; exact hlo j hj⟩
  · have : r = bs.length := by omega
    subst this
    rw [List.findIdx_eq_length]
    intro x hx
    obtain ⟨i, hi, rfl⟩ := List.getElem_of_mem hx
    rw [getD_get]; exact hlo i hi

theorem place_zero {bs : List Nat} {v : Nat} (h : fle v (bs.getD 0 0) = true) : place bs v = 0 :=
  place_of (Nat.zero_le _) (fun _ hk => absurd hk (Nat.not_lt_zero _)) (fun _ => h)

theorem Incr.key_le {bs : List Nat} (h : Incr bs) {i j : Nat} (hij : i ≤ j) (hj : j < bs.length) : key (bs.getD i 0) ≤ key (bs.getD j 0) := by
  rcases Nat.lt_or_ge i j with h' | h'
  · exact Int.le_of_lt (h.2 i j h' hj)
  · have : i = j := by omega
    subst this; exact Int.le_refl _

theorem place_last {bs : List Nat} {v : Nat} (h : Incr bs) (hv : fgt v (bs.getD (bs.length - 1) 0) = true) : place bs v = bs.length := by
  refine place_of (Nat.le_refl _) (fun k hk => ?_) (fun h => absurd h (Nat.lt_irrefl _))
  have hle := h.key_le (i := k) (j := bs.length - 1) (by omega) (by omega)
  obtain ⟨_, _, hlt⟩ := (fgt_iff ..).1 hv
  cases hf : fle v (bs.getD k 0) with
  | false => rfl
  | true => obtain ⟨_, _, h3⟩ := (fle_iff ..).1 hf; omega

def bsearch (p : Nat → Bool) (i j : Nat) : Nat :=
  if i < j then (if p ((i + j) / 2) then bsearch p i ((i + j) / 2) else bsearch p ((i + j) / 2 + 1) j) else i
termination_by j - i
decreasing_by all_goals omega
/-- Where the search for v in the words bs ends, begun between i and j. -/
def fsAt (bs : List Nat) (v i j : Nat) : Nat := bsearch (fun i => fge (bs.getD i 0) v) i j
theorem fsAt_lt {bs : List Nat} {v i j : Nat} (h : i < j) : fsAt bs v i j = if fge (bs.getD ((i + j) / 2) 0) v then fsAt bs v i ((i + j) / 2) else fsAt bs v ((i + j) / 2 + 1) j := by
  unfold fsAt; rw [bsearch, if_pos h]
theorem fsAt_ge {bs : List Nat} {v i j : Nat} (h : ¬ i < j) : fsAt bs v i j = i := by
  unfold fsAt; rw [bsearch, if_neg h]
theorem bsearch_le (p : Nat → Bool) (n : Nat) : ∀ i j, j - i ≤ n → i ≤ j → i ≤ bsearch p i j ∧ bsearch p i j ≤ j := by
  induction n with
  | zero => intro i j h hij; rw [bsearch, if_neg (by omega)]; omega
  | succ n ih =>
    intro i j h hij
    rw [bsearch]
    split
    · split
      · have := ih i ((i + j) / 2) (by omega) (by omega); omega
      · have := ih ((i + j) / 2 + 1) j (by omega) (by omega); omega
    · omega
theorem bsearch_spec (p : Nat → Bool) (m : Nat) (hmono : ∀ a b, a ≤ b → b < m → p a = true → p b = true) (n : Nat) :
    ∀ i j, j - i ≤ n → i ≤ j → j ≤ m → (∀ k, k < i → p k = false) → (j < m → p j = true) → (∀ k, k < bsearch p i j → p k = false) ∧ (bsearch p i j < m → p (bsearch p i j) = true) := by
  induction n with
  | zero =>
    intro i j h hij hjm hlo hhi
    rw [bsearch, if_neg (by omega)]
    have : i = j := by omega
    subst this
    exact ⟨hlo, hhi⟩
  | succ n ih =>
    intro i j h hij hjm hlo hhi
    rw [bsearch]
    split
    · split
      · rename_i hp
        exact ih i ((i + j) / 2) (by omega) (by omega) (by omega) hlo (fun _ => hp)
      · rename_i hp
        refine ih ((i + j) / 2 + 1) j (by omega) (by omega) (by omega) (fun k hk => ?_) hhi
        cases hpk : p k with
        | false => rfl
        | true => exact absurd (hmono k ((i + j) / 2) (by omega) (by omega) hpk) hp
    · have : i = j := by omega
      subst this
      exact ⟨hlo, hhi⟩
theorem fsAt_place {bs : List Nat} {v : Nat} (h : Incr bs) : fsAt bs v 0 bs.length = place bs v := by
  have hs := bsearch_spec (fun i => fge (bs.getD i 0) v) bs.length (fun a b hab hb hp => by
    simp only [fge_iff] at hp ⊢
    obtain ⟨_, h2, h3⟩ := hp
    have := h.key_le hab hb
    exact ⟨h.1 _ (getD_mem bs b hb), h2, by omega⟩) bs.length 0 bs.length (by omega) (by omega) (Nat.le_refl _) (fun k hk => absurd hk (Nat.not_lt_zero _)) (fun h => absurd h (Nat.lt_irrefl _))
  have hb := bsearch_le (fun i => fge (bs.getD i 0) v) bs.length 0 bs.length (by omega) (by omega)
  symm
  refine place_of hb.2 (fun k hk => ?_) (fun hk => ?_)
  · rw [← fge_fle]; exact hs.1 k hk
  · rw [← fge_fle]; exact hs.2 hk
end Go.Proofs.YtebjclmbacmilaaGreatDoor
