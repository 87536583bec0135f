/- Plain laws of sums of floating-point numbers, one after another, and of counts by the first bound that is not less. No program. Conditions as typed. -/
import Derived.Test.YtebjclmbacmilaaGreatDoorB
import Derived.Test.YtebjclmbacmilaaGreatDoorE
namespace Go.Proofs.YtebjclmbacmilaaGreatDoor
open Ieee Fl

theorem nearest_form (s : Bool) (m : Nat) (p : Int) : ∃ t, t ≤ 2047 * 2 ^ 52 ∧ double.nearest s m p = double.word s t := by
  have e4 : double.infRung = 2047 * 2 ^ 52 := rfl
  unfold Format.nearest
  split
  · exact ⟨0, by omega, rfl⟩
  · simp only [e4]
    exact ⟨_, Nat.min_le_right _ _, rfl⟩
theorem word_nan (s : Bool) (t : Nat) (h : t ≤ 2047 * 2 ^ 52) : isNaN (double.word s t) = false := by
  have e1 : double.signWeight = 2 ^ 63 := rfl
  rw [isNaN_iff]
  unfold Format.word rung
  rw [e1]
  cases s
  · simp only [Bool.false_eq_true, if_false, decide_eq_false_iff_not]; omega
  · simp only [if_true, decide_eq_false_iff_not]; omega
theorem word_neg0 (s : Bool) (t : Nat) (h : t ≤ 2047 * 2 ^ 52) (he : double.word s t = 2 ^ 63) : s = true ∧ t = 0 := by
  have e1 : double.signWeight = 2 ^ 63 := rfl
  unfold Format.word at he
  rw [e1] at he
  cases s
  · simp only [Bool.false_eq_true, if_false] at he; omega
  · simp only [if_true] at he; exact ⟨rfl, by omega⟩

theorem sum_nan {a b : Datum} {d : Datum} (h : a.sum b = some d) : d.isNaN = false := by
  cases a <;> cases b <;> simp only [Datum.sum] at h
  all_goals first
    | (cases h; done)
    | (cases h; rfl)
    | (split at h <;> first | (cases h; rfl) | (cases h; done))

theorem add_nan {x y r : Nat} (h : double.add x y = some r) : isNaN r = false := by
  unfold Format.add at h
  cases hd : (double.read x).sum (double.read y) with
  | none => rw [hd] at h; cases h
  | some d =>
    rw [hd] at h
    cases h
    have hn := sum_nan hd
    cases d with
    | nan s f => cases hn
    | infinity s => exact word_nan s _ (Nat.le_refl _)
    | number s m p =>
      obtain ⟨t, ht, he⟩ := nearest_form s m p
      show isNaN (double.nearest s m p) = false
      rw [he]; exact word_nan s t ht

theorem add_lt64 {x y r : Nat} (h : double.add x y = some r) : r < 2 ^ 64 := Ieee.Format.add_lt double h

theorem nearest_neg0 (s : Bool) (m : Nat) (p : Int) (hp : double.leastPlace ≤ p) (h : double.nearest s m p = 2 ^ 63) : s = true ∧ m = 0 := by
  have e2 : double.binade = 2 ^ 52 := rfl
  have e4 : double.infRung = 2047 * 2 ^ 52 := rfl
  have e5 : double.leastPlace = -1074 := rfl
  rw [e5] at hp
  by_cases hm : m = 0
  · subst hm
    have : double.nearest s 0 p = double.word s 0 := by unfold Format.nearest; rw [if_pos rfl]
    rw [this] at h
    exact ⟨(word_neg0 s 0 (by omega) h).1, rfl⟩
  · exfalso
    unfold Format.nearest at h
    rw [if_neg hm] at h
    simp only [e2, e4, e5] at h
    have h2 := (word_neg0 _ _ (Nat.min_le_right _ _) h).2
    obtain ⟨last, hl⟩ : ∃ last, last = max (p + (m.log2 : Int) - (double.fractionBits : Int)) (-1074) := ⟨_, rfl⟩
    rw [← hl] at h2
    have hk : ((last - -1074).toNat * 2 ^ 52 + Toward.even.cut s (m <<< (p - last).toNat) (last - p).toNat) = 0 := by
      rcases Nat.le_total ((last - -1074).toNat * 2 ^ 52 + Toward.even.cut s (m <<< (p - last).toNat) (last - p).toNat) (2047 * 2 ^ 52) with h3 | h3
      · rw [Nat.min_eq_left h3] at h2; exact h2
      · rw [Nat.min_eq_right h3] at h2; omega
    have h4 : (last - -1074).toNat = 0 := by
      rcases Nat.eq_zero_or_pos (last - -1074).toNat with h | h
      · exact h
      · have : 1 * 2 ^ 52 ≤ (last - -1074).toNat * 2 ^ 52 := Nat.mul_le_mul_right _ h
        omega
    have h5 : -1074 ≤ last := by rw [hl]; exact Int.le_max_right _ _
    have h6 : last = -1074 := by omega
    have h7 : (last - p).toNat = 0 := by omega
    rw [h4, h7, cut_zero, Nat.shiftLeft_eq] at hk
    have : 0 < m * 2 ^ (p - last).toNat := Nat.mul_pos (by omega) (Nat.two_pow_pos _)
    omega

theorem add_neg0 {x y r : Nat} (hx : x < 2 ^ 64) (hxn : x ≠ 2 ^ 63) (h : double.add x y = some r) : r ≠ 2 ^ 63 := by
  intro hr
  unfold Format.add at h
  cases ha : double.read x with
  | nan s f => rw [ha] at h; simp [Datum.sum] at h
  | infinity s =>
    rw [ha] at h
    cases hb : double.read y with
    | nan t f => rw [hb] at h; simp [Datum.sum] at h
    | infinity t =>
      rw [hb] at h
      simp only [Datum.sum] at h
      split at h
      · cases h
        have := (word_neg0 s (2047 * 2 ^ 52) (Nat.le_refl _) hr).2
        omega
      · cases h
    | number t n j =>
      rw [hb] at h
      simp only [Datum.sum, Option.map_some, Option.some.injEq] at h
      rw [← h] at hr
      have := (word_neg0 s (2047 * 2 ^ 52) (Nat.le_refl _) hr).2
      omega
  | number s m i =>
    rw [ha] at h
    cases hb : double.read y with
    | nan t f => rw [hb] at h; simp [Datum.sum] at h
    | infinity t =>
      rw [hb] at h
      simp only [Datum.sum, Option.map_some, Option.some.injEq] at h
      rw [← h] at hr
      have := (word_neg0 t (2047 * 2 ^ 52) (Nat.le_refl _) hr).2
      omega
    | number t n j =>
      rw [hb] at h
      simp only [Datum.sum, Option.map_some, Option.some.injEq] at h
      rw [← h] at hr
      have hp : double.leastPlace ≤ min i j := by have := read_place ha; have := read_place hb; omega
      obtain ⟨h1, h2⟩ := nearest_neg0 _ _ _ hp hr
      have htot : signed s m (i - min i j).toNat + signed t n (j - min i j).toNat = 0 := Int.natAbs_eq_zero.1 h2
      rw [if_pos htot] at h1
      have hst : s = true ∧ t = true := by cases s <;> cases t <;> simp_all
      obtain ⟨rfl, rfl⟩ := hst
      have hm : m = 0 := by
        rcases Nat.eq_zero_or_pos m with h | h
        · exact h
        · exfalso
          have e1 := signed_natAbs true m (i - min i j).toNat
          have p1 : 0 < m * 2 ^ (i - min i j).toNat := Nat.mul_pos h (Nat.two_pow_pos _)
          have s1 : signed true m (i - min i j).toNat ≤ 0 := by
            show -((m <<< (i - min i j).toNat : Nat) : Int) ≤ 0
            have := Int.natCast_nonneg (m <<< (i - min i j).toNat)
            omega
          have s2 : signed true n (j - min i j).toNat ≤ 0 := by
            show -((n <<< (j - min i j).toNat : Nat) : Int) ≤ 0
            have := Int.natCast_nonneg (n <<< (j - min i j).toNat)
            omega
          omega
      subst hm
      exact hxn (by have := read_zero hx ha; simpa using this)

/-- The sum of numbers, one after another, from 0 on; none: it is a NaN. -/
def fsum (l : List Nat) : Option Nat := l.foldl (fun a v => a.bind fun x => double.add x v) (some 0)
theorem fsum_snoc (l : List Nat) (v : Nat) : fsum (l ++ [v]) = (fsum l).bind fun x => double.add x v := by
  unfold fsum; rw [List.foldl_append]; rfl
/-- s is the sum of l: its word, or some NaN. -/
def SumTo (l : List Nat) (s : Nat) : Prop := fsum l = some s ∨ fsum l = none ∧ isNaN s = true ∧ s < 2 ^ 64

theorem fold_ok (l : List Nat) : ∀ a : Option Nat, (∀ s, a = some s → s < 2 ^ 64 ∧ s ≠ 2 ^ 63 ∧ isNaN s = false) → ∀ s, l.foldl (fun a v => a.bind fun x => double.add x v) a = some s → s < 2 ^ 64 ∧ s ≠ 2 ^ 63 ∧ isNaN s = false := by
  induction l with
  | nil => exact fun a h => h
  | cons v l ih =>
    intro a h
    refine ih _ (fun s hs => ?_)
    cases a with
    | none => cases hs
    | some x =>
      obtain ⟨h1, h2, _⟩ := h x rfl
      exact ⟨add_lt64 hs, add_neg0 h1 h2 hs, add_nan hs⟩
theorem fsum_ok (l : List Nat) : ∀ s, fsum l = some s → s < 2 ^ 64 ∧ s ≠ 2 ^ 63 ∧ isNaN s = false :=
  fold_ok l (some 0) (fun s h => by cases h; exact ⟨by decide, by decide, by decide +kernel⟩)
theorem add_nan_left {x y : Nat} (h : isNaN x = true) : double.add x y = none := by
  unfold Format.add
  unfold Go.Proofs.YtebjclmbacmilaaGreatDoor.Fl.isNaN at h
  cases hx : double.read x with
  | nan s f => rfl
  | infinity s => rw [hx] at h; cases h
  | number s m e => rw [hx] at h; cases h
theorem add_nan_right {x y : Nat} (h : isNaN y = true) : double.add x y = none := by
  unfold Format.add
  unfold Go.Proofs.YtebjclmbacmilaaGreatDoor.Fl.isNaN at h
  cases hy : double.read y with
  | nan s f => cases double.read x <;> rfl
  | infinity s => rw [hy] at h; cases h
  | number s m e => rw [hy] at h; cases h
theorem SumTo.nil : SumTo [] 0 := .inl rfl
theorem SumTo.snoc {l : List Nat} {s v r : Nat} (h : SumTo l s) (hr : AddTo s v r) : SumTo (l ++ [v]) r := by
  unfold SumTo
  rw [fsum_snoc]
  rcases h with h | ⟨h, hn, _⟩
  · rw [h]
    rcases hr with hr | ⟨hr, hr2, hr3⟩
    · exact .inl hr
    · exact .inr ⟨hr, hr2, hr3⟩
  · rw [h]
    rcases hr with hr | ⟨hr, hr2, hr3⟩
    · rw [add_nan_left hn] at hr; cases hr
    · exact .inr ⟨rfl, hr2, hr3⟩
theorem SumTo.again {l : List Nat} {s r : Nat} (h : SumTo l s) (hr : AddTo 0 s r) : SumTo l r := by
  rcases h with h | ⟨h, hn, _⟩
  · obtain ⟨h1, h2, h3⟩ := fsum_ok l s h
    have := zero_add_word h1 h2 h3
    rcases hr with hr | ⟨hr, _⟩
    · rw [this] at hr; cases hr; exact .inl h
    · rw [this] at hr; cases hr
  · rcases hr with hr | ⟨_, hr2, hr3⟩
    · rw [add_nan_right hn] at hr; cases hr
    · exact .inr ⟨h, hr2, hr3⟩

/-- How many of l are counted at each bound. -/
def tally (bs l : List Nat) : List Nat := (List.range bs.length).map fun i => l.countP fun v => place bs v == i
theorem tally_len (bs l : List Nat) : (tally bs l).length = bs.length := by simp [tally]
theorem tally_nil (bs : List Nat) : tally bs [] = List.replicate bs.length 0 := by
  unfold tally
  apply List.ext_getElem <;> simp
theorem tally_wd (bs l : List Nat) (i : Nat) (h : i < bs.length) : wd (tally bs l) i = l.countP fun v => place bs v == i := by
  unfold wd tally
  rw [List.getD_eq_getElem?_getD, List.getElem?_map, List.getElem?_range h]
  rfl
theorem tally_snoc (bs l : List Nat) (v : Nat) : tally bs (l ++ [v]) = (tally bs l).set (place bs v) (wd (tally bs l) (place bs v) + 1) := by
  apply List.ext_getElem
  · simp [tally_len]
  · intro i h1 h2
    rw [tally_len] at h1
    rw [getD_get, getD_get]
    show wd _ i = wd _ i
    rw [tally_wd _ _ _ h1, List.countP_append]
    have hset : wd ((tally bs l).set (place bs v) (wd (tally bs l) (place bs v) + 1)) i = if place bs v = i then wd (tally bs l) i + 1 else wd (tally bs l) i := by
      unfold wd
      rw [List.getD_eq_getElem?_getD, List.getElem?_set]
      split
      · rename_i he
        subst he
        rw [if_pos (by rw [tally_len]; exact h1)]
        rfl
      · rw [List.getD_eq_getElem?_getD]
    rw [hset, tally_wd _ _ _ h1]
    by_cases he : place bs v = i
    · simp [he]
    · simp [he]
theorem cum_tally (bs l : List Nat) (k : Nat) (hk : k ≤ bs.length) : ((tally bs l).take k).sum = l.countP fun v => decide (place bs v < k) := by
  induction k with
  | zero => simp
  | succ k ih =>
    rw [List.take_succ_eq_append_getElem (by rw [tally_len]; omega), List.sum_append, ih (by omega), getD_get]
    have : (tally bs l).getD k 0 = l.countP fun v => place bs v == k := tally_wd bs l k (by omega)
    rw [this]
    simp only [List.sum_cons, List.sum_nil, Nat.add_zero]
    clear this ih
    induction l with
    | nil => rfl
    | cons x r ih =>
      simp only [List.countP_cons]
      by_cases h1 : place bs x < k
      · have : ¬ place bs x = k := by omega
        have h3 : place bs x < k + 1 := by omega
        simp [h1, this, h3]; omega
      · by_cases h2 : place bs x = k
        · simp [h2]; omega
        · have h3 : ¬ place bs x < k + 1 := by omega
          simp [h1, h2, h3]; omega
theorem tally_sum_le (bs l : List Nat) : (tally bs l).sum ≤ l.length := by
  have h := cum_tally bs l bs.length (Nat.le_refl _)
  rw [List.take_of_length_le (by rw [tally_len]; exact Nat.le_refl _)] at h
  rw [h]
  exact List.countP_le_length
end Go.Proofs.YtebjclmbacmilaaGreatDoor
