/- Plain laws of IEEE 754 words: 0 + x is x, whole numbers add exactly, a word that is no NaN equals itself. No conditions beside those typed. -/
import Derived.Laws.FloatArith
namespace Go.Proofs.YtebjclmbacmilaaGreatDoor.Fl
open Ieee

theorem cut_zero (neg : Bool) (n : Nat) : Toward.even.cut neg n 0 = n := by
  simp [Toward.cut, Nat.mod_one]

theorem cut_exact (neg : Bool) (n drop : Nat) (h : drop ≤ (n * 2 ^ drop).log2 + 2) : Toward.even.cut neg (n * 2 ^ drop) drop = n := by
  have hp : 0 < 2 ^ drop := Nat.two_pow_pos _
  unfold Toward.cut
  simp only [Nat.min_eq_left h, Nat.one_shiftLeft, Nat.mul_div_cancel _ hp, Nat.mul_mod_left]
  have h1 : decide (2 ^ drop < 2 * 0) = false := by simp
  have h2 : (2 ^ drop == 2 * 0) = false := by
    rw [beq_eq_false_iff_ne]; omega
  rw [h1, h2]; simp

/-- The word of a rung below infinity and of a sign. -/
theorem word_read_sub (x : Nat) (hx : x < 2 ^ 64) (h : x % 2 ^ 63 < 2 ^ 52) : double.write (double.read x) = x := by
  have e1 : double.signWeight = 2 ^ 63 := rfl
  have e2 : double.binade = 2 ^ 52 := rfl
  unfold Format.read
  simp only [e1, e2, h, if_true]
  unfold Format.write Format.nearest
  simp only
  have hw : ∀ r, r = x % 2 ^ 63 → double.word (x / 2 ^ 63 % 2 == 1) r = x := by
    intro r hr; subst hr; unfold Format.word; rw [e1]
    split
    · rename_i hb; simp at hb; omega
    · rename_i hb; simp at hb; omega
  split
  · rename_i h0; exact hw 0 h0.symm
  · rename_i h0
    have hl : (x % 2 ^ 63).log2 < 52 := (Nat.log2_lt h0).2 h
    have e3 : double.fractionBits = 52 := rfl
    have hlast : max (double.leastPlace + ((x % 2 ^ 63).log2 : Int) - (double.fractionBits : Int)) double.leastPlace = double.leastPlace := by
      rw [e3]; omega
    rw [hlast]
    simp only [Int.sub_self, Int.toNat_zero, Nat.shiftLeft_zero, cut_zero, Nat.zero_mul, Nat.zero_add]
    have e4 : double.infRung = 2047 * 2 ^ 52 := rfl
    rw [e4, Nat.min_eq_left (by omega)]
    exact hw _ rfl

theorem word_read_norm (x : Nat) (hx : x < 2 ^ 64) (h1 : ¬ x % 2 ^ 63 < 2 ^ 52) (h2 : x % 2 ^ 63 < 2047 * 2 ^ 52) : double.write (double.read x) = x := by
  have e1 : double.signWeight = 2 ^ 63 := rfl
  have e2 : double.binade = 2 ^ 52 := rfl
  have e4 : double.infRung = 2047 * 2 ^ 52 := rfl
  have e3 : double.fractionBits = 52 := rfl
  unfold Format.read
  simp only [e1, e2, e4, h1, h2, if_true, if_false]
  unfold Format.write Format.nearest
  simp only
  have hw : ∀ r, r = x % 2 ^ 63 → double.word (x / 2 ^ 63 % 2 == 1) r = x := by
    intro r hr; subst hr; unfold Format.word; rw [e1]
    split
    · rename_i hb; simp at hb; omega
    · rename_i hb; simp at hb; omega
  generalize hq : x % 2 ^ 63 = r at *
  have hm0 : ¬ (2 ^ 52 + r % 2 ^ 52 = 0) := by omega
  rw [if_neg hm0]
  have hlog : (2 ^ 52 + r % 2 ^ 52).log2 = 52 := by
    have hlt := Nat.mod_lt r (Nat.two_pow_pos 52)
    have a1 : (2 ^ 52 + r % 2 ^ 52).log2 < 53 := (Nat.log2_lt hm0).2 (by omega)
    have a2 : 52 ≤ (2 ^ 52 + r % 2 ^ 52).log2 := (Nat.le_log2 hm0).2 (by omega)
    omega
  rw [hlog, e3]
  have hlast : max (double.leastPlace + ((r / 2 ^ 52 - 1 : Nat) : Int) + ((52 : Nat) : Int) - ((52 : Nat) : Int)) double.leastPlace = double.leastPlace + ((r / 2 ^ 52 - 1 : Nat) : Int) := by omega
  rw [hlast]
  simp only [Int.sub_self, Int.toNat_zero, Nat.shiftLeft_zero, cut_zero, e2, e4]
  have e5 : (double.leastPlace + ((r / 2 ^ 52 - 1 : Nat) : Int) - double.leastPlace).toNat = r / 2 ^ 52 - 1 := by omega
  rw [e5]
  have e6 : (r / 2 ^ 52 - 1) * 2 ^ 52 + (2 ^ 52 + r % 2 ^ 52) = r := by
    have := Nat.div_add_mod r (2 ^ 52)
    have h3 : 1 ≤ r / 2 ^ 52 := (Nat.le_div_iff_mul_le (Nat.two_pow_pos 52)).2 (by omega)
    generalize r / 2 ^ 52 = d at *
    generalize 2 ^ 52 = B at *
    obtain ⟨d', rfl⟩ : ∃ d', d = d' + 1 := ⟨d - 1, by omega⟩
    rw [Nat.add_sub_cancel]
    rw [Nat.mul_comm, Nat.add_mul, Nat.one_mul] at this
    omega
  rw [e6, Nat.min_eq_left (by omega)]
  exact hw _ rfl

theorem word_read (x : Nat) (hx : x < 2 ^ 64) (h : x % 2 ^ 63 < 2047 * 2 ^ 52) : double.write (double.read x) = x := by
  by_cases h1 : x % 2 ^ 63 < 2 ^ 52
  · exact word_read_sub x hx h1
  · exact word_read_norm x hx h1 h

/-- The finite words. -/
theorem read_number {x : Nat} {s : Bool} {m : Nat} {e : Int} (h : double.read x = .number s m e) : x % 2 ^ 63 < 2047 * 2 ^ 52 := by
  have e1 : double.signWeight = 2 ^ 63 := rfl
  have e2 : double.binade = 2 ^ 52 := rfl
  have e4 : double.infRung = 2047 * 2 ^ 52 := rfl
  unfold Format.read at h
  simp only [e1, e2, e4] at h
  split at h
  · omega
  · split at h
    · omega
    · split at h <;> cases h

theorem write_read_number {x : Nat} (hx : x < 2 ^ 64) {s : Bool} {m : Nat} {e : Int} (h : double.read x = .number s m e) : double.write (.number s m e) = x := by
  rw [← h]; exact word_read x hx (read_number h)

theorem write_read_inf {x : Nat} (hx : x < 2 ^ 64) {s : Bool} (h : double.read x = .infinity s) : double.write (.infinity s) = x := by
  have e1 : double.signWeight = 2 ^ 63 := rfl
  have e2 : double.binade = 2 ^ 52 := rfl
  have e4 : double.infRung = 2047 * 2 ^ 52 := rfl
  unfold Format.read at h
  simp only [e1, e2, e4] at h
  split at h
  · cases h
  · split at h
    · cases h
    · split at h
      · rename_i he
        have hs : (x / 2 ^ 63 % 2 == 1) = s := by simpa using h
        show double.word s double.infRung = x
        unfold Format.word
        rw [e1, e4, ← hs]
        split
        · rename_i hb; simp at hb; omega
        · rename_i hb; simp at hb; omega
      · cases h

/-- The mantissa of what is read is small, and no place is below the least one. -/
theorem read_place {x : Nat} {s : Bool} {m : Nat} {e : Int} (h : double.read x = .number s m e) : double.leastPlace ≤ e := by
  have e1 : double.signWeight = 2 ^ 63 := rfl
  have e2 : double.binade = 2 ^ 52 := rfl
  have e4 : double.infRung = 2047 * 2 ^ 52 := rfl
  unfold Format.read at h
  simp only [e1, e2, e4] at h
  split at h
  · cases h; omega
  · split at h
    · cases h; omega
    · split at h <;> cases h

theorem read_zero {x : Nat} (hx : x < 2 ^ 64) {s : Bool} {e : Int} (h : double.read x = .number s 0 e) : x = if s then 2 ^ 63 else 0 := by
  have hw := write_read_number hx h
  rw [← hw]
  show double.nearest s 0 e = _
  unfold Format.nearest
  rw [if_pos rfl]
  unfold Format.word
  have e1 : double.signWeight = 2 ^ 63 := rfl
  rw [e1]

theorem log2_mul_two_pow (m k : Nat) (hm : m ≠ 0) : (m * 2 ^ k).log2 = m.log2 + k := by
  have hp : 0 < 2 ^ k := Nat.two_pow_pos _
  have hne : m * 2 ^ k ≠ 0 := Nat.mul_ne_zero hm (by omega)
  have h1 : (m * 2 ^ k).log2 < m.log2 + k + 1 := by
    refine (Nat.log2_lt hne).2 ?_
    have : m < 2 ^ (m.log2 + 1) := (Nat.log2_lt hm).1 (Nat.lt_succ_self _)
    rw [show m.log2 + k + 1 = (m.log2 + 1) + k by omega, Nat.pow_add]
    exact Nat.mul_lt_mul_of_pos_right this hp
  have h2 : m.log2 + k ≤ (m * 2 ^ k).log2 := by
    refine (Nat.le_log2 hne).2 ?_
    have : 2 ^ m.log2 ≤ m := (Nat.le_log2 hm).1 (Nat.le_refl _)
    rw [Nat.pow_add]
    exact Nat.mul_le_mul_right _ this
  omega

theorem cut_scale (neg : Bool) (m d k : Nat) (hm : m ≠ 0) : Toward.even.cut neg (m * 2 ^ k) (d + k) = Toward.even.cut neg m d := by
  have hp : 0 < 2 ^ k := Nat.two_pow_pos _
  unfold Toward.cut
  rw [log2_mul_two_pow m k hm]
  have hg : 1 <<< min (d + k) (m.log2 + k + 2) = (1 <<< min d (m.log2 + 2)) * 2 ^ k := by
    rw [Nat.one_shiftLeft, Nat.one_shiftLeft, ← Nat.pow_add]; congr 1; omega
  rw [hg]
  generalize 1 <<< min d (m.log2 + 2) = g
  simp only [Nat.mul_div_mul_right _ _ hp, Nat.mul_mod_mul_right]
  have h1 : decide (g * 2 ^ k < 2 * (m % g * 2 ^ k)) = decide (g < 2 * (m % g)) := by
    rw [← Nat.mul_assoc]; exact decide_eq_decide.2 (Nat.mul_lt_mul_right hp)
  have h2 : (g * 2 ^ k == 2 * (m % g * 2 ^ k)) = (g == 2 * (m % g)) := by
    rw [← Nat.mul_assoc, Bool.eq_iff_iff, beq_iff_eq, beq_iff_eq]
    exact ⟨fun h => Nat.eq_of_mul_eq_mul_right hp h, fun h => congrArg (· * 2 ^ k) h⟩
  rw [h1, h2]

/-- To round is to round the value: the digits may be counted from elsewhere. -/
theorem nearest_shift (f : Format) (neg : Bool) (m k : Nat) (p : Int) : f.nearest neg (m * 2 ^ k) p = f.nearest neg m (p + k) := by
  have hp : 0 < 2 ^ k := Nat.two_pow_pos _
  unfold Format.nearest
  by_cases hm : m = 0
  · subst hm; simp
  have hne : m * 2 ^ k ≠ 0 := Nat.mul_ne_zero hm (by omega)
  rw [if_neg hne, if_neg hm, log2_mul_two_pow m k hm]
  have hlast : max (p + ((m.log2 + k : Nat) : Int) - (f.fractionBits : Int)) f.leastPlace = max (p + (k : Int) + (m.log2 : Int) - (f.fractionBits : Int)) f.leastPlace := by
    congr 1; omega
  rw [hlast]
  simp only
  generalize hL : max (p + (k : Int) + (m.log2 : Int) - (f.fractionBits : Int)) f.leastPlace = L
  suffices h : Toward.even.cut neg ((m * 2 ^ k) <<< (p - L).toNat) (L - p).toNat = Toward.even.cut neg (m <<< (p + k - L).toNat) (L - (p + k)).toNat by rw [h]
  by_cases h1 : L ≤ p
  · have a1 : (L - p).toNat = 0 := by omega
    have a2 : (L - (p + k)).toNat = 0 := by omega
    rw [a1, a2, cut_zero, cut_zero, Nat.shiftLeft_eq, Nat.shiftLeft_eq, Nat.mul_assoc, ← Nat.pow_add]
    congr 2; omega
  · by_cases h2 : p + k ≤ L
    · have a1 : (p - L).toNat = 0 := by omega
      have a2 : (p + k - L).toNat = 0 := by omega
      rw [a1, a2, Nat.shiftLeft_zero, Nat.shiftLeft_zero]
      have a3 : (L - p).toNat = (L - (p + k)).toNat + k := by omega
      rw [a3, cut_scale neg m _ k hm]
    · have a1 : (p - L).toNat = 0 := by omega
      have a2 : (L - (p + k)).toNat = 0 := by omega
      rw [a1, a2, Nat.shiftLeft_zero, cut_zero, Nat.shiftLeft_eq]
      obtain ⟨u, hu⟩ : ∃ u, u = (L - p).toNat := ⟨_, rfl⟩
      obtain ⟨v, hv⟩ : ∃ v, v = (p + k - L).toNat := ⟨_, rfl⟩
      rw [← hu, ← hv]
      have hk : k = v + u := by omega
      rw [hk, Nat.pow_add, ← Nat.mul_assoc]
      refine cut_exact neg _ u ?_
      rw [log2_mul_two_pow _ u (Nat.mul_ne_zero hm (by have := Nat.two_pow_pos v; omega))]
      omega

theorem signed_natAbs (s : Bool) (m k : Nat) : (signed s m k).natAbs = m * 2 ^ k := by
  unfold signed
  rw [Nat.shiftLeft_eq]
  cases s
  · simp only [Bool.false_eq_true, if_false, Int.natAbs_natCast]
  · simp only [if_true, Int.natAbs_neg, Int.natAbs_natCast]

theorem signed_neg (s : Bool) (m k : Nat) (hm : m ≠ 0) : decide (signed s m k < 0) = s := by
  have hp : 0 < m * 2 ^ k := Nat.mul_pos (by omega) (Nat.two_pow_pos _)
  unfold signed
  rw [Nat.shiftLeft_eq]
  generalize m * 2 ^ k = n at *
  cases s
  · simp only [Bool.false_eq_true, if_false, decide_eq_false_iff_not]; omega
  · simp only [if_true, decide_eq_true_eq]; omega

/-- 0 + x is x, but for the negative zero. -/
theorem zero_add_word {x : Nat} (hx : x < 2 ^ 64) (hn : x ≠ 2 ^ 63) (hnan : (double.read x).isNaN = false) : double.add 0 x = some x := by
  have h0 : double.read 0 = .number false 0 double.leastPlace := by decide +kernel
  unfold Format.add
  rw [h0]
  cases hr : double.read x with
  | nan s f => rw [hr] at hnan; cases hnan
  | infinity s => simp only [Datum.sum, Option.map_some, write_read_inf hx hr]
  | number s m e =>
    have hp := read_place hr
    have hmin : min double.leastPlace e = double.leastPlace := by omega
    simp only [Datum.sum, hmin, Option.map_some, Option.some.injEq]
    by_cases hm : m = 0
    · subst hm
      have hz := read_zero hx hr
      have hs : s = false := by
        cases s with
        | false => rfl
        | true => exact (hn (by simpa using hz)).elim
      subst hs
      simp only [signed, Bool.false_eq_true, if_false, Nat.zero_shiftLeft] at hz ⊢
      rw [hz]
      decide +kernel
    · have hsz : signed false 0 (double.leastPlace - double.leastPlace).toNat = 0 := by simp [signed]
      rw [hsz, Int.zero_add]
      have hne : ¬ signed s m (e - double.leastPlace).toNat = 0 := by
        intro h
        have := signed_natAbs s m (e - double.leastPlace).toNat
        rw [h] at this
        have hp : 0 < m * 2 ^ (e - double.leastPlace).toNat := Nat.mul_pos (by omega) (Nat.two_pow_pos _)
        simp at this; omega
      rw [if_neg hne, signed_neg _ _ _ hm, signed_natAbs]
      show double.nearest s _ _ = x
      rw [nearest_shift]
      have : double.leastPlace + ((e - double.leastPlace).toNat : Int) = e := by omega
      rw [this]
      exact write_read_number hx hr

/-- The word of a whole number. -/
def enc (n : Int) : Nat := double.write (.number (n < 0) n.natAbs 0)

theorem enc_lt (n : Int) : enc n < 2 ^ 64 := double.write_lt _

/-- Words whose reading is the whole number n: a number with n's sign and value. -/
def Reads (x : Nat) (n : Int) : Prop := ∃ m k : Nat, double.read x = .number (decide (n < 0)) m (-(k : Int)) ∧ n.natAbs * 2 ^ k = m

theorem enc_reads (n : Int) (h : n.natAbs < 2 ^ 53) : Reads (enc n) n := by
  by_cases h0 : n = 0
  · subst h0
    obtain ⟨k, hk⟩ : ∃ k : Nat, -(k : Int) = -1074 := ⟨1074, rfl⟩
    exact ⟨0, k, by rw [hk]; decide +kernel, by rw [Int.natAbs_zero, Nat.zero_mul]⟩
  obtain ⟨m, hm⟩ : ∃ m, m = n.natAbs := ⟨_, rfl⟩
  have hm0 : m ≠ 0 := by omega
  have hm1 : m < 2 ^ 53 := by omega
  have e1 : double.signWeight = 2 ^ 63 := rfl
  have e2 : double.binade = 2 ^ 52 := rfl
  have e3 : double.fractionBits = 52 := rfl
  have e4 : double.infRung = 2047 * 2 ^ 52 := rfl
  have e5 : double.leastPlace = -1074 := rfl
  obtain ⟨L, hL⟩ : ∃ L, L = m.log2 := ⟨_, rfl⟩
  have hL1 : L < 53 := by rw [hL]; exact (Nat.log2_lt hm0).2 hm1
  have hlo : 2 ^ L ≤ m := by rw [hL]; exact (Nat.le_log2 hm0).1 (Nat.le_refl _)
  have hhi : m < 2 ^ (L + 1) := by rw [hL]; exact (Nat.log2_lt hm0).1 (Nat.lt_succ_self _)
  obtain ⟨K, hK⟩ : ∃ K, K = m * 2 ^ (52 - L) := ⟨_, rfl⟩
  have hK1 : 2 ^ 52 ≤ K := by
    rw [hK, show 2 ^ 52 = 2 ^ L * 2 ^ (52 - L) by rw [← Nat.pow_add]; congr 1; omega]
    exact Nat.mul_le_mul_right _ hlo
  have hK2 : K < 2 ^ 53 := by
    rw [hK, show 2 ^ 53 = 2 ^ (L + 1) * 2 ^ (52 - L) by rw [← Nat.pow_add]; congr 1; omega]
    exact Nat.mul_lt_mul_of_pos_right hhi (Nat.two_pow_pos _)
  have henc : enc n = double.word (decide (n < 0)) ((L + 1022) * 2 ^ 52 + K) := by
    show double.nearest (decide (n < 0)) n.natAbs 0 = _
    unfold Format.nearest
    rw [← hm, if_neg hm0, ← hL, e3, e5]
    have hlast : max ((0 : Int) + (L : Int) - ((52 : Nat) : Int)) (-1074) = (L : Int) - 52 := by omega
    rw [hlast]
    simp only
    have a1 : ((L : Int) - 52 - 0).toNat = 0 := by omega
    have a2 : (0 - ((L : Int) - 52)).toNat = 52 - L := by omega
    have a3 : ((L : Int) - 52 - -1074).toNat = L + 1022 := by omega
    rw [a1, a2, a3, cut_zero, Nat.shiftLeft_eq, ← hK, e2, e4, Nat.min_eq_left (by omega)]
  have hr : ∀ b : Bool, (double.word b ((L + 1022) * 2 ^ 52 + K) / 2 ^ 63 % 2 == 1) = b ∧ double.word b ((L + 1022) * 2 ^ 52 + K) % 2 ^ 63 = (L + 1022) * 2 ^ 52 + K := by
    intro b
    unfold Format.word
    rw [e1]
    cases b
    · simp only [Bool.false_eq_true, if_false]
      constructor
      · simp only [beq_eq_false_iff_ne]; omega
      · omega
    · simp only [if_true]
      constructor
      · simp only [beq_iff_eq]; omega
      · omega
  refine ⟨K, 52 - L, ?_, by rw [← hm, hK]⟩
  rw [henc]
  unfold Format.read
  rw [e1, e2, e4, e5, (hr _).1, (hr _).2]
  simp only
  rw [if_neg (by omega), if_pos (by omega)]
  congr 1
  · omega
  · omega

theorem add_reads {x y : Nat} {a b : Int} (hx : Reads x a) (hy : Reads y b) : double.add x y = some (enc (a + b)) := by
  obtain ⟨m, k, hx, hm⟩ := hx
  obtain ⟨n, l, hy, hn⟩ := hy
  unfold Format.add
  rw [hx, hy]
  simp only [Datum.sum, Option.map_some, Option.some.injEq]
  have sg : ∀ (c : Int) (q r : Nat) (j : Nat), c.natAbs * 2 ^ q = r → signed (decide (c < 0)) r j = c * 2 ^ (q + j) := by
    intro c q r j hc
    subst hc
    unfold signed
    rw [Nat.shiftLeft_eq, Nat.mul_assoc, ← Nat.pow_add]
    by_cases hc : c < 0
    · rw [if_pos (by simpa using hc)]
      have : ((c.natAbs : Nat) : Int) = -c := by omega
      rw [Int.natCast_mul, this, Int.natCast_pow, Int.neg_mul, Int.neg_neg]; rfl
    · rw [if_neg (by simpa using hc)]
      have : ((c.natAbs : Nat) : Int) = c := by omega
      rw [Int.natCast_mul, this, Int.natCast_pow]; simp
  obtain ⟨N, hN⟩ : ∃ N : Nat, min (-(k : Int)) (-(l : Int)) = -(N : Int) ∧ k ≤ N ∧ l ≤ N := ⟨max k l, by omega, by omega, by omega⟩
  obtain ⟨hN, hk, hl⟩ := hN
  rw [hN]
  have e1 : (-(k : Int) - -(N : Int)).toNat = N - k := by omega
  have e2 : (-(l : Int) - -(N : Int)).toNat = N - l := by omega
  rw [e1, e2, sg a k m (N - k) hm, sg b l n (N - l) hn]
  rw [show k + (N - k) = N by omega, show l + (N - l) = N by omega, ← Int.add_mul]
  have hpos : (0 : Int) < 2 ^ N := by exact Int.pow_pos (by decide)
  have hz : ((a + b) * 2 ^ N = 0) ↔ a + b = 0 := by
    constructor
    · intro h
      rcases Int.mul_eq_zero.1 h with h | h
      · exact h
      · omega
    · intro h; rw [h]; simp
  have hlt : ((a + b) * 2 ^ N < 0) ↔ a + b < 0 := by
    constructor
    · intro h
      rcases Int.lt_or_le (a + b) 0 with h' | h'
      · exact h'
      · exact absurd (Int.mul_nonneg h' (Int.le_of_lt hpos)) (by omega)
    · intro h; exact Int.mul_neg_of_neg_of_pos h hpos
  have hab : ((a + b) * 2 ^ N).natAbs = (a + b).natAbs * 2 ^ N := by
    rw [Int.natAbs_mul, Int.natAbs_pow]; rfl
  rw [hab]
  show double.nearest _ _ _ = double.nearest _ _ _
  rw [nearest_shift, show -(N : Int) + (N : Int) = 0 by omega]
  by_cases h0 : a + b = 0
  · rw [if_pos (hz.2 h0), h0]
    simp only [Int.natAbs_zero, Format.nearest, if_true]
    have : (decide (a < 0) && decide (b < 0)) = decide ((0 : Int) < 0) := by
      by_cases ha : a < 0
      · have : ¬ b < 0 := by omega
        simp [this]
      · simp [ha]
    rw [this]
  · rw [if_neg (fun h => h0 (hz.1 h))]
    congr 1
    exact decide_eq_decide.2 hlt

theorem order_self {x : Nat} (h : (double.read x).isNaN = false) : double.order x x = some .eq := by
  unfold Format.order
  cases hr : double.read x with
  | nan s f => rw [hr] at h; cases h
  | infinity s => simp [Datum.order]
  | number s m e => simp [Datum.order]
end Go.Proofs.YtebjclmbacmilaaGreatDoor.Fl
