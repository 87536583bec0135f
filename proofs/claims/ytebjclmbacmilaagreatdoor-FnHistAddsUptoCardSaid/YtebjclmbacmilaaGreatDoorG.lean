/- Plain laws of the place of a number among increasing bounds: what a linear and a binary search find. Conditions: the bounds are numbers in increasing order. -/
import Derived.Test.YtebjclmbacmilaaGreatDoorFm
namespace Go.Proofs.YtebjclmbacmilaaGreatDoor
open Fl

def fle (x y : Nat) : Bool := FloatKind.f64.format.order x y == some .lt || FloatKind.f64.format.order x y == some .eq
def fge (x y : Nat) : Bool := FloatKind.f64.format.order x y == some .gt || FloatKind.f64.format.order x y == some .eq
def fgt (x y : Nat) : Bool := FloatKind.f64.format.order x y == some .gt
def flt (x y : Nat) : Bool := FloatKind.f64.format.order x y == some .lt
def feq (x y : Nat) : Bool := FloatKind.f64.format.order x y == some .eq

theorem ord_eq (x y : Nat) : FloatKind.f64.format.order x y = if isNaN x || isNaN y then none else some (compare (key x) (key y)) := by
  show Ieee.double.order x y = _
  cases hx : isNaN x
  · cases hy : isNaN y
    · rw [order_key hx hy]; rfl
    · rw [order_nan_right hy]; rfl
  · rw [order_nan_left hx]; rfl

theorem fle_iff (x y : Nat) : fle x y = true ↔ isNaN x = false ∧ isNaN y = false ∧ key x ≤ key y := by
  unfold fle; rw [ord_eq]
  cases isNaN x
  · cases isNaN y
    · simp only [Bool.or_self, Bool.false_eq_true, if_false, true_and]
      rcases Int.lt_trichotomy (key x) (key y) with h | h | h
      · rw [Int.compare_eq_lt.2 h]; simp; omega
      · rw [Int.compare_eq_eq.2 h]; simp; omega
      · rw [Int.compare_eq_gt.2 h]; simp; omega
    · simp
  · simp
theorem fge_iff (x y : Nat) : fge x y = true ↔ isNaN x = false ∧ isNaN y = false ∧ key y ≤ key x := by
  unfold fge; rw [ord_eq]
  cases isNaN x
  · cases isNaN y
    · simp only [Bool.or_self, Bool.false_eq_true, if_false, true_and]
      rcases Int.lt_trichotomy (key x) (key y) with h | h | h
      · rw [Int.compare_eq_lt.2 h]; simp; omega
      · rw [Int.compare_eq_eq.2 h]; simp; omega
      · rw [Int.compare_eq_gt.2 h]; simp; omega
    · simp
  · simp
theorem fgt_iff (x y : Nat) : fgt x y = true ↔ isNaN x = false ∧ isNaN y = false ∧ key y < key x := by
  unfold fgt; rw [ord_eq]
  cases isNaN x
  · cases isNaN y
    · simp only [Bool.or_self, Bool.false_eq_true, if_false, true_and]
      rcases Int.lt_trichotomy (key x) (key y) with h | h | h
      · rw [Int.compare_eq_lt.2 h]; simp; omega
      · rw [Int.compare_eq_eq.2 h]; simp; omega
      · rw [Int.compare_eq_gt.2 h]; simp; omega
    · simp
  · simp
theorem flt_iff (x y : Nat) : flt x y = true ↔ isNaN x = false ∧ isNaN y = false ∧ key x < key y := by
  unfold flt; rw [ord_eq]
  cases isNaN x
  · cases isNaN y
    · simp only [Bool.or_self, Bool.false_eq_true, if_false, true_and]
      rcases Int.lt_trichotomy (key x) (key y) with h | h | h
      · rw [Int.compare_eq_lt.2 h]; simp; omega
      · rw [Int.compare_eq_eq.2 h]; simp; omega
      · rw [Int.compare_eq_gt.2 h]; simp; omega
    · simp
  · simp
theorem feq_iff (x y : Nat) : feq x y = true ↔ isNaN x = false ∧ isNaN y = false ∧ key x = key y := by
  unfold feq; rw [ord_eq]
  cases isNaN x
  · cases isNaN y
    · simp only [Bool.or_self, Bool.false_eq_true, if_false, true_and]
      rcases Int.lt_trichotomy (key x) (key y) with h | h | h
      · rw [Int.compare_eq_lt.2 h]; simp; omega
      · rw [Int.compare_eq_eq.2 h]; simp; omega
      · rw [Int.compare_eq_gt.2 h]; simp; omega
    · simp
  · simp
theorem fge_fle (x y : Nat) : fge x y = fle y x := by
  rw [Bool.eq_iff_iff, fge_iff, fle_iff]
  exact ⟨fun ⟨a, b, c⟩ => ⟨b, a, c⟩, fun ⟨a, b, c⟩ => ⟨b, a, c⟩⟩

/-- Numbers in strictly increasing order. -/
def Incr (bs : List Nat) : Prop := (∀ b ∈ bs, isNaN b = false) ∧ ∀ i j, i < j → j < bs.length → key (bs.getD i 0) < key (bs.getD j 0)

/-- The first bound that is not less than v; the number of bounds, if there is none. -/
def place (bs : List Nat) (v : Nat) : Nat := bs.findIdx (fle v)

theorem place_le (bs : List Nat) (v : Nat) : place bs v ≤ bs.length := List.findIdx_le_length

theorem getD_mem (bs : List Nat) (i : Nat) (h : i < bs.length) : bs.getD i 0 ∈ bs := by
  rw [List.getD_eq_getElem?_getD, List.getElem?_eq_getElem h]; exact List.getElem_mem h

theorem getD_get (bs : List Nat) (i : Nat) (h : i < bs.length) : bs[i] = bs.getD i 0 := by
  rw [List.getD_eq_getElem?_getD, List.getElem?_eq_getElem h]; rfl

theorem place_of {bs : List Nat} {v r : Nat} (hr : r ≤ bs.length) (hlo : ∀ k, k < r → fle v (bs.getD k 0) = false) (hhi : r < bs.length → fle v (bs.getD r 0) = true) : place bs v = r := by
  unfold place
  rcases Nat.lt_or_ge r bs.length with h | h
  · rw [List.findIdx_eq h]
    refine ⟨by rw [getD_get]; exact hhi h, fun j hj => by rw [getD_get]; exact hlo j hj⟩
  · have : r = bs.length := by omega
    subst this
    rw [List.findIdx_eq_length]
    intro x hx
    obtain ⟨i, hi, rfl⟩ := List.getElem_of_mem hx
    rw [getD_get]; exact hlo i hi

theorem place_zero {bs : List Nat} {v : Nat} (h : fle v (bs.getD 0 0) = true) : place bs v = 0 :=
  place_of (Nat.zero_le _) (fun _ hk => absurd hk (Nat.not_lt_zero _)) (fun _ => h)

theorem Incr.key_le {bs : List Nat} (h : Incr bs) {i j : Nat} (hij : i ≤ j) (hj : j < bs.length) : key (bs.getD i 0) ≤ key (bs.getD j 0) := by
  rcases Nat.lt_or_ge i j with h' | h'
  · exact Int.le_of_lt (h.2 i j h' hj)
  · have : i = j := by omega
    subst this; exact Int.le_refl _

theorem place_last {bs : List Nat} {v : Nat} (h : Incr bs) (hv : fgt v (bs.getD (bs.length - 1) 0) = true) : place bs v = bs.length := by
  refine place_of (Nat.le_refl _) (fun k hk => ?_) (fun h => absurd h (Nat.lt_irrefl _))
  have hle := h.key_le (i := k) (j := bs.length - 1) (by omega) (by omega)
  obtain ⟨_, _, hlt⟩ := (fgt_iff ..).1 hv
  cases hf : fle v (bs.getD k 0) with
  | false => rfl
  | true => obtain ⟨_, _, h3⟩ := (fle_iff ..).1 hf; omega

def bsearch (p : Nat → Bool) (i j : Nat) : Nat :=
  if i < j then (if p ((i + j) / 2) then bsearch p i ((i + j) / 2) else bsearch p ((i + j) / 2 + 1) j) else i
termination_by j - i
decreasing_by all_goals omega
/-- Where the search for v in the words bs ends, begun between i and j. -/
def fsAt (bs : List Nat) (v i j : Nat) : Nat := bsearch (fun i => fge (bs.getD i 0) v) i j
theorem fsAt_lt {bs : List Nat} {v i j : Nat} (h : i < j) : fsAt bs v i j = if fge (bs.getD ((i + j) / 2) 0) v then fsAt bs v i ((i + j) / 2) else fsAt bs v ((i + j) / 2 + 1) j := by
  unfold fsAt; rw [bsearch, if_pos h]
theorem fsAt_ge {bs : List Nat} {v i j : Nat} (h : ¬ i < j) : fsAt bs v i j = i := by
  unfold fsAt; rw [bsearch, if_neg h]
theorem bsearch_le (p : Nat → Bool) (n : Nat) : ∀ i j, j - i ≤ n → i ≤ j → i ≤ bsearch p i j ∧ bsearch p i j ≤ j := by
  induction n with
  | zero => intro i j h hij; rw [bsearch, if_neg (by omega)]; omega
  | succ n ih =>
    intro i j h hij
    rw [bsearch]
    split
    · split
      · have := ih i ((i + j) / 2) (by omega) (by omega); omega
      · have := ih ((i + j) / 2 + 1) j (by omega) (by omega); omega
    · omega
theorem bsearch_spec (p : Nat → Bool) (m : Nat) (hmono : ∀ a b, a ≤ b → b < m → p a = true → p b = true) (n : Nat) :
    ∀ i j, j - i ≤ n → i ≤ j → j ≤ m → (∀ k, k < i → p k = false) → (j < m → p j = true) → (∀ k, k < bsearch p i j → p k = false) ∧ (bsearch p i j < m → p (bsearch p i j) = true) := by
  induction n with
  | zero =>
    intro i j h hij hjm hlo hhi
    rw [bsearch, if_neg (by omega)]
    have : i = j := by omega
    subst this
    exact ⟨hlo, hhi⟩
  | succ n ih =>
    intro i j h hij hjm hlo hhi
    rw [bsearch]
    split
    · split
      · rename_i hp
        exact ih i ((i + j) / 2) (by omega) (by omega) (by omega) hlo (fun _ => hp)
      · rename_i hp
        refine ih ((i + j) / 2 + 1) j (by omega) (by omega) (by omega) (fun k hk => ?_) hhi
        cases hpk : p k with
        | false => rfl
        | true => exact absurd (hmono k ((i + j) / 2) (by omega) (by omega) hpk) hp
    · have : i = j := by omega
      subst this
      exact ⟨hlo, hhi⟩
theorem fsAt_place {bs : List Nat} {v : Nat} (h : Incr bs) : fsAt bs v 0 bs.length = place bs v := by
  have hs := bsearch_spec (fun i => fge (bs.getD i 0) v) bs.length (fun a b hab hb hp => by
    simp only [fge_iff] at hp ⊢
    obtain ⟨_, h2, h3⟩ := hp
    have := h.key_le hab hb
    exact ⟨h.1 _ (getD_mem bs b hb), h2, by omega⟩) bs.length 0 bs.length (by omega) (by omega) (Nat.le_refl _) (fun k hk => absurd hk (Nat.not_lt_zero _)) (fun h => absurd h (Nat.lt_irrefl _))
  have hb := bsearch_le (fun i => fge (bs.getD i 0) v) bs.length 0 bs.length (by omega) (by omega)
  symm
  refine place_of hb.2 (fun k hk => ?_) (fun hk => ?_)
  · rw [← fge_fle]; exact hs.1 k hk
  · rw [← fge_fle]; exact hs.2 hk
end Go.Proofs.YtebjclmbacmilaaGreatDoor
