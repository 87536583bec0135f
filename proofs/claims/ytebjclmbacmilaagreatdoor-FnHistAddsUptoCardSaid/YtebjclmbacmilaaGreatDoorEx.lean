/- Plain laws of products: a positive number times a factor above 0 is never a NaN. No program. Conditions as typed. -/
import Derived.Test.YtebjclmbacmilaaGreatDoorFs
namespace Go.Proofs.YtebjclmbacmilaaGreatDoor
open Ieee Fl

/-- Neither a NaN nor a zero. -/
def NZ (x : Nat) : Prop := (∃ s, double.read x = .infinity s) ∨ ∃ s m e, double.read x = .number s m e ∧ m ≠ 0
def Fin (x : Nat) : Prop := ∃ s m e, double.read x = .number s m e ∧ m ≠ 0
theorem nz_nan {x : Nat} (h : NZ x) : isNaN x = false := by
  unfold Fl.isNaN
  rcases h with ⟨s, h⟩ | ⟨s, m, e, h, _⟩ <;> rw [h] <;> rfl
theorem read_word_inf (s : Bool) : double.read (double.word s (2047 * 2 ^ 52)) = .infinity s := by cases s <;> decide +kernel

/-- What can be multiplied by f again and again. -/
def Mulable (f x : Nat) : Prop := isNaN x = false ∧ (¬ Fin f → NZ x)

theorem mul_ok {f x : Nat} (hf : NZ f) (hx : Mulable f x) : ∃ r, double.mul x f = some r ∧ Mulable f r := by
  obtain ⟨hn, hz⟩ := hx
  unfold Format.mul
  by_cases hfin : Fin f
  · obtain ⟨t, n, j, hr, hn0⟩ := hfin
    rw [hr]
    have hm : ∀ r, isNaN r = false → Mulable f r := fun r h => ⟨h, fun h2 => absurd ⟨t, n, j, hr, hn0⟩ h2⟩
    cases hx : double.read x with
    | nan s g => unfold Fl.isNaN at hn; rw [hx] at hn; cases hn
    | infinity s =>
      refine ⟨double.word (s ^^ t) (2047 * 2 ^ 52), ?_, hm _ (word_nan _ _ (Nat.le_refl _))⟩
      simp only [Datum.product, if_neg hn0]; rfl
    | number s m i =>
      obtain ⟨q, hq, he⟩ := nearest_form (s ^^ t) (m * n) (i + j)
      refine ⟨double.nearest (s ^^ t) (m * n) (i + j), rfl, hm _ (by rw [he]; exact word_nan _ _ hq)⟩
  · have hi : ∃ t, double.read f = .infinity t := by
      rcases hf with h | h
      · exact h
      · exact absurd h hfin
    obtain ⟨t, hr⟩ := hi
    rw [hr]
    have hm : ∀ s, Mulable f (double.word s (2047 * 2 ^ 52)) := fun s => ⟨word_nan _ _ (Nat.le_refl _), fun _ => .inl ⟨s, read_word_inf s⟩⟩
    rcases hz hfin with ⟨s, h⟩ | ⟨s, m, e, h, hm0⟩
    · rw [h]; exact ⟨_, rfl, hm (s ^^ t)⟩
    · rw [h]
      refine ⟨double.word (s ^^ t) (2047 * 2 ^ 52), ?_, hm _⟩
      simp only [Datum.product, if_neg hm0]
      rw [Bool.xor_comm]; rfl

theorem nz_of_rung {x : Nat} (hn : isNaN x = false) (h : 0 < rung x) : NZ x := by
  have e1 : double.signWeight = 2 ^ 63 := rfl
  have e2 : double.binade = 2 ^ 52 := rfl
  have e4 : double.infRung = 2047 * 2 ^ 52 := rfl
  rw [isNaN_iff] at hn
  have hn' : ¬ 2047 * 2 ^ 52 < rung x := by simpa using hn
  unfold rung at h hn'
  unfold NZ Format.read
  simp only [e1, e2, e4]
  by_cases h1 : x % 2 ^ 63 < 2 ^ 52
  · right; exact ⟨_, _, _, if_pos h1, by omega⟩
  · by_cases h2 : x % 2 ^ 63 < 2047 * 2 ^ 52
    · right
      refine ⟨_, _, _, by rw [if_neg h1, if_pos h2], ?_⟩
      have : 0 < 2 ^ 52 := by decide
      omega
    · left
      have h3 : x % 2 ^ 63 = 2047 * 2 ^ 52 := by omega
      exact ⟨_, by rw [if_neg h1, if_neg h2, if_pos h3]⟩
theorem nz_of_gt {x y : Nat} (hy : 0 ≤ key y) (h : fgt x y = true) : NZ x := by
  obtain ⟨h1, _, h3⟩ := (fgt_iff x y).1 h
  refine nz_of_rung h1 ?_
  rcases Nat.eq_zero_or_pos (rung x) with h0 | h0
  · exfalso
    have hx0 : key x = 0 := by unfold Fl.key; rw [h0]; split <;> rfl
    omega
  · exact h0
theorem fgt_of_not {x y : Nat} (hx : isNaN x = false) (hy : isNaN y = false) (h : fle x y = false) : fgt x y = true := by
  rw [fgt_iff]
  refine ⟨hx, hy, ?_⟩
  rcases Int.lt_or_le (key y) (key x) with h1 | h1
  · exact h1
  · rw [(fle_iff x y).2 ⟨hx, hy, h1⟩] at h; cases h

/-- l begins with start, and each further one is the factor times the one before it; cur is the next one. -/
structure ExpOk (start f : Nat) (l : List Nat) (cur : Nat) : Prop where
  first : 0 < l.length → wd l 0 = start
  next : ∀ i, i + 1 < l.length → double.mul (wd l i) f = some (wd l (i + 1))
  cur0 : l.length = 0 → cur = start
  cur1 : 0 < l.length → double.mul (wd l (l.length - 1)) f = some cur
  nan : ∀ i, i < l.length → isNaN (wd l i) = false
  ok : Mulable f cur
theorem wd_app_lt {l : List Nat} {x i : Nat} (h : i < l.length) : wd (l ++ [x]) i = wd l i := by
  unfold wd
  rw [List.getD_eq_getElem?_getD, List.getD_eq_getElem?_getD, List.getElem?_append_left h]
theorem wd_app_eq {l : List Nat} {x : Nat} : wd (l ++ [x]) l.length = x := by
  unfold wd
  rw [List.getD_eq_getElem?_getD, List.getElem?_append_right (Nat.le_refl _)]
  simp
theorem ExpOk.snoc {start f : Nat} {l : List Nat} {cur r : Nat} (h : ExpOk start f l cur) (hr : double.mul cur f = some r) (hm : Mulable f r) : ExpOk start f (l ++ [cur]) r where
  first := fun _ => by
    rcases Nat.eq_zero_or_pos l.length with h0 | h0
    · have : l = [] := List.length_eq_zero_iff.1 h0
      subst this
      exact h.cur0 rfl
    · rw [wd_app_lt h0]; exact h.first h0
  next := fun i hi => by
    simp only [List.length_append, List.length_cons, List.length_nil] at hi
    rcases Nat.lt_or_ge (i + 1) l.length with h1 | h1
    · rw [wd_app_lt (by omega), wd_app_lt h1]; exact h.next i h1
    · have e : i + 1 = l.length := by omega
      rw [wd_app_lt (by omega), e, wd_app_eq]
      have := h.cur1 (by omega)
      rw [← e] at this
      exact this
  cur0 := fun h0 => by simp at h0
  cur1 := fun _ => by
    simp only [List.length_append, List.length_cons, List.length_nil, Nat.add_sub_cancel]
    rw [wd_app_eq]; exact hr
  nan := fun i hi => by
    simp only [List.length_append, List.length_cons, List.length_nil] at hi
    rcases Nat.lt_or_ge i l.length with h1 | h1
    · rw [wd_app_lt h1]; exact h.nan i h1
    · have e : i = l.length := by omega
      rw [e, wd_app_eq]; exact h.ok.1
  ok := hm
end Go.Proofs.YtebjclmbacmilaaGreatDoor
