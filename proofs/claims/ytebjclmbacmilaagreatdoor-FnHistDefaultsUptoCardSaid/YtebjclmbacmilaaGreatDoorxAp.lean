/- Plain laws of sums of floating-point numbers, one after another, and of counts by the first bound that is not less. No program. Conditions as typed. A step of HistRun inside DoorTry, classic, without exemplars: an observation or a writing; what has been observed and written so far. Conditions: as stated. Append onto a slice of the call's own from whatever slice, at a step of a region and in a list. No conditions beside those typed. -/
import Derived.Test.YtebjclmbacmilaaGreatDoorxD
import Derived.Test.YtebjclmbacmilaaGreatDoorxH
import Derived.Test.YtebjclmbacmilaaGreatDoorSt
import Derived.Test.YtebjclmbacmilaaGreatDoorxNk
import Derived.Test.YtebjclmbacmilaaGreatDoorC
import Derived.Deep.AppendLies
import Derived.Laws.AppendOwnNone
namespace Go.Proofs.YtebjclmbacmilaaGreatDoor
open Ieee Fl

theorem nearest_form (s : Bool) (m : Nat) (p : Int) : ∃ t, t ≤ 2047 * 2 ^ 52 ∧ double.nearest s m p = double.word s t := by
  have e4 : double.infRung = 2047 * 2 ^ 52 := rfl
  unfold Format.nearest
  split
  · exact ⟨0, by omega, rfl⟩
  · simp only [e4]
    exact ⟨_, Nat.min_le_right _ _, rfl⟩
theorem word_nan (s : Bool) (t : Nat) (h : t ≤ 2047 * 2 ^ 52) : isNaN (double.word s t) = false := by
  have e1 : double.signWeight = 2 ^ 63 := rfl
  rw [isNaN_iff]
  unfold Format.word rung
  rw [e1]
  cases s
  · simp only [Bool.false_eq_true, if_false, decide_eq_false_iff_not]; omega
  · simp only [if_true, decide_eq_false_iff_not]; omega
theorem word_neg0 (s : Bool) (t : Nat) (h : t ≤ 2047 * 2 ^ 52) (he : double.word s t = 2 ^ 63) : s = true ∧ t = 0 := by
  have e1 : double.signWeight = 2 ^ 63 := rfl
  unfold Format.word at he
  rw [e1] at he
  cases s
  · simp only [Bool.false_eq_true, if_false] at he; omega
  · simp only [if_true] at he; exact ⟨rfl, by omega⟩

theorem sum_nan {a b : Datum} {d : Datum} (h : a.sum b = some d) : d.isNaN = false := by
  cases a <;> cases b <;> simp only [Datum.sum] at h
  all_goals first
    | (cases h; done)
    | (cases h; rfl)
    | (split at h <;> first | (cases h; rfl) | (cases h; done))

theorem add_nan {x y r : Nat} (h : double.add x y = some r) : isNaN r = false := by
  unfold Format.add at h
  cases hd : (double.read x).sum (double.read y) with
  | none => rw [hd] at h; cases h
  | some d =>
    rw [hd] at h
    cases h
    have hn := sum_nan hd
    cases d with
    | nan s f => cases hn
    | infinity s => exact word_nan s _ (Nat.le_refl _)
    | number s m p =>
      obtain ⟨t, ht, he⟩ := nearest_form s m p
      show isNaN (double.nearest s m p) = false
      rw [he]; exact word_nan s t ht

theorem add_lt64 {x y r : Nat} (h : double.add x y = some r) : r < 2 ^ 64 := Ieee.Format.add_lt double h

theorem nearest_neg0 (s : Bool) (m : Nat) (p : Int) (hp : double.leastPlace ≤ p) (h : double.nearest s m p = 2 ^ 63) : s = true ∧ m = 0 := by
  have e2 : double.binade = 2 ^ 52 := rfl
  have e4 : double.infRung = 2047 * 2 ^ 52 := rfl
  have e5 : double.leastPlace = -1074 := rfl
  rw [e5] at hp
  by_cases hm : m = 0
  · subst hm
    have : double.nearest s 0 p = double.word s 0 := by unfold Format.nearest; rw [if_pos rfl]
    rw [this] at h
    exact ⟨(word_neg0 s 0 (by omega) h).1, rfl⟩
  · exfalso
    unfold Format.nearest at h
    rw [if_neg hm] at h
    simp only [e2, e4, e5] at h
    have h2 := (word_neg0 _ _ (Nat.min_le_right _ _) h).2
    obtain ⟨last, hl⟩ : ∃ last, last = max (p + (m.log2 : Int) - (double.fractionBits : Int)) (-1074) := ⟨_, rfl⟩
    rw [← hl] at h2
    have hk : ((last - -1074).toNat * 2 ^ 52 + Toward.even.cut s (m <<< (p - last).toNat) (last - p).toNat) = 0 := by
      rcases Nat.le_total ((last - -1074).toNat * 2 ^ 52 + Toward.even.cut s (m <<< (p - last).toNat) (last - p).toNat) (2047 * 2 ^ 52) with h3 | h3
      · rw [Nat.min_eq_left h3] at h2; exact h2
      · rw [Nat.min_eq_right h3] at h2; omega
    have h4 : (last - -1074).toNat = 0 := by
      rcases Nat.eq_zero_or_pos (last - -1074).toNat with h | h
      · exact h
      · have : 1 * 2 ^ 52 ≤ (last - -1074).toNat * 2 ^ 52 := Nat.mul_le_mul_right _ h
        omega
    have h5 : -1074 ≤ last := by rw [hl]; exact Int.le_max_right _ _
    have h6 : last = -1074 := by omega
    have h7 : (last - p).toNat = 0 := by omega
    rw [h4, h7, cut_zero, Nat.shiftLeft_eq] at hk
    have : 0 < m * 2 ^ (p - last).toNat := Nat.mul_pos (by omega) (Nat.two_pow_pos _)
    omega

theorem add_neg0 {x y r : Nat} (hx : x < 2 ^ 64) (hxn : x ≠ 2 ^ 63) (h : double.add x y = some r) : r ≠ 2 ^ 63 := by
  intro hr
  unfold Format.add at h
  cases ha : double.read x with
  | nan s f => rw [ha] at h; simp [Datum.sum] at h
  | infinity s =>
    rw [ha] at h
    cases hb : double.read y with
    | nan t f => rw [hb] at h; simp [Datum.sum] at h
    | infinity t =>
      rw [hb] at h
      simp only [Datum.sum] at h
      split at h
      · cases h
        have := (word_neg0 s (2047 * 2 ^ 52) (Nat.le_refl _) hr).2
        omega
      · cases h
    | number t n j =>
      rw [hb] at h
      simp only [Datum.sum, Option.map_some, Option.some.injEq] at h
      rw [← h] at hr
      have := (word_neg0 s (2047 * 2 ^ 52) (Nat.le_refl _) hr).2
      omega
  | number s m i =>
    rw [ha] at h
    cases hb : double.read y with
    | nan t f => rw [hb] at h; simp [Datum.sum] at h
    | infinity t =>
      rw [hb] at h
      simp only [Datum.sum, Option.map_some, Option.some.injEq] at h
      rw [← h] at hr
      have := (word_neg0 t (2047 * 2 ^ 52) (Nat.le_refl _) hr).2
      omega
    | number t n j =>
      rw [hb] at h
      simp only [Datum.sum, Option.map_some, Option.some.injEq] at h
      rw [← h] at hr
      have hp : double.leastPlace ≤ min i j := by have := read_place ha; have := read_place hb; omega
      obtain ⟨h1, h2⟩ := nearest_neg0 _ _ _ hp hr
      have htot : signed s m (i - min i j).toNat + signed t n (j - min i j).toNat = 0 := Int.natAbs_eq_zero.1 h2
      rw [if_pos htot] at h1
      have hst : s = true ∧ t = true := by cases s <;> cases t <;> simp_all
      obtain ⟨rfl, rfl⟩ := hst
      have hm : m = 0 := by
        rcases Nat.eq_zero_or_pos m with h | h
        · exact h
        · exfalso
          have e1 := signed_natAbs true m (i - min i j).toNat
          have p1 : 0 < m * 2 ^ (i - min i j).toNat := Nat.mul_pos h (Nat.two_pow_pos _)
          have s1 : signed true m (i - min i j).toNat ≤ 0 := by
            show -((m <<< (i - min i j).toNat : Nat) : Int) ≤ 0
            have := Int.natCast_nonneg (m <<< (i - min i j).toNat)
            omega
          have s2 : signed true n (j - min i j).toNat ≤ 0 := by
            show -((n <<< (j - min i j).toNat : Nat) : Int) ≤ 0
            have := Int.natCast_nonneg (n <<< (j - min i j).toNat)
            omega
          omega
      subst hm
      exact hxn (by have := read_zero hx ha; simpa using this)

/-- The sum of numbers, one after another, from 0 on; none: it is a NaN. -/
def fsum (l : List Nat) : Option Nat := l.foldl (fun a v => a.bind fun x => double.add x v) (some 0)
theorem fsum_snoc (l : List Nat) (v : Nat) : fsum (l ++ [v]) = (fsum l).bind fun x => double.add x v := by
  unfold fsum; rw [List.foldl_append]; rfl
/-- s is the sum of l: its word, or some NaN. -/
def SumTo (l : List Nat) (s : Nat) : Prop := fsum l = some s ∨ fsum l = none ∧ isNaN s = true ∧ s < 2 ^ 64

theorem fold_ok (l : List Nat) : ∀ a : Option Nat, (∀ s, a = some s → s < 2 ^ 64 ∧ s ≠ 2 ^ 63 ∧ isNaN s = false) → ∀ s, l.foldl (fun a v => a.bind fun x => double.add x v) a = some s → s < 2 ^ 64 ∧ s ≠ 2 ^ 63 ∧ isNaN s = false := by
  induction l with
  | nil => exact fun a h => h
  | cons v l ih =>
    intro a h
    refine ih _ (fun s hs => ?_)
    cases a with
    | none => cases hs
    | some x =>
      obtain ⟨h1, h2, _⟩ := h x rfl
      exact ⟨add_lt64 hs, add_neg0 h1 h2 hs, add_nan hs⟩
theorem fsum_ok (l : List Nat) : ∀ s, fsum l = some s → s < 2 ^ 64 ∧ s ≠ 2 ^ 63 ∧ isNaN s = false :=
  fold_ok l (some 0) (fun s h => by cases h; exact ⟨by decide, by decide, by decide +kernel⟩)
theorem add_nan_left {x y : Nat} (h : isNaN x = true) : double.add x y = none := by
  unfold Format.add
  unfold Go.Proofs.YtebjclmbacmilaaGreatDoor.Fl.isNaN at h
  cases hx : double.read x with
  | nan s f => rfl
  | infinity s => rw [hx] at h; cases h
  | number s m e => rw [hx] at h; cases h
theorem add_nan_right {x y : Nat} (h : isNaN y = true) : double.add x y = none := by
  unfold Format.add
  unfold Go.Proofs.YtebjclmbacmilaaGreatDoor.Fl.isNaN at h
  cases hy : double.read y with
  | nan s f => cases double.read x <;> rfl
  | infinity s => rw [hy] at h; cases h
  | number s m e => rw [hy] at h; cases h
theorem SumTo.nil : SumTo [] 0 := .inl rfl
theorem SumTo.snoc {l : List Nat} {s v r : Nat} (h : SumTo l s) (hr : AddTo s v r) : SumTo (l ++ [v]) r := by
  unfold SumTo
  rw [fsum_snoc]
  rcases h with h | ⟨h, hn, _⟩
  · rw [h]
    rcases hr with hr | ⟨hr, hr2, hr3⟩
    · exact .inl hr
    · exact .inr ⟨hr, hr2, hr3⟩
  · rw [h]
    rcases hr with hr | ⟨hr, hr2, hr3⟩
    · rw [add_nan_left hn] at hr; cases hr
    · exact .inr ⟨rfl, hr2, hr3⟩
theorem SumTo.again {l : List Nat} {s r : Nat} (h : SumTo l s) (hr : AddTo 0 s r) : SumTo l r := by
  rcases h with h | ⟨h, hn, _⟩
  · obtain ⟨h1, h2, h3⟩ := fsum_ok l s h
    have := zero_add_word h1 h2 h3
    rcases hr with hr | ⟨hr, _⟩
    · rw [this] at hr; cases hr; exact .inl h
    · rw [this] at hr; cases hr
  · rcases hr with hr | ⟨_, hr2, hr3⟩
    · rw [add_nan_right hn] at hr; cases hr
    · exact .inr ⟨h, hr2, hr3⟩

/-- How many of l are counted at each bound. -/
def tally (bs l : List Nat) : List Nat := (List.range bs.length).map fun i => l.countP fun v => place bs v == i
theorem tally_len (bs l : List Nat) : (tally bs l).length = bs.length := by simp [tally]
theorem tally_nil (bs : List Nat) : tally bs [] = List.replicate bs.length 0 := by
  unfold tally
  apply List.ext_getElem <;> simp
theorem tally_wd (bs l : List Nat) (i : Nat) (h : i < bs.length) : wd (tally bs l) i = l.countP fun v => place bs v == i := by
  unfold wd tally
  rw [List.getD_eq_getElem?_getD, List.getElem?_map, List.getElem?_range h]
  rfl
theorem tally_snoc (bs l : List Nat) (v : Nat) : tally bs (l ++ [v]) = (tally bs l).set (place bs v) (wd (tally bs l) (place bs v) + 1) := by
  apply List.ext_getElem
  · simp [tally_len]
  · intro i h1 h2
    rw [tally_len] at h1
    rw [getD_get, getD_get]
    show wd _ i = wd _ i
    rw [tally_wd _ _ _ h1, List.countP_append]
    have hset : wd ((tally bs l).set (place bs v) (wd (tally bs l) (place bs v) + 1)) i = if place bs v = i then wd (tally bs l) i + 1 else wd (tally bs l) i := by
      unfold wd
      rw [List.getD_eq_getElem?_getD, List.getElem?_set]
      split
      · rename_i he
        subst he
        rw [if_pos (by rw [tally_len]; exact h1)]
        rfl
      · rw [List.getD_eq_getElem?_getD]
    rw [hset, tally_wd _ _ _ h1]
    by_cases he : place bs v = i
    · simp [he]
    · simp [he]
theorem cum_tally (bs l : List Nat) (k : Nat) (hk : k ≤ bs.length) : ((tally bs l).take k).sum = l.countP fun v => decide (place bs v < k) := by
  induction k with
  | zero => simp
  | succ k ih =>
    rw [List.take_succ_eq_append_getElem (by rw [tally_len]; omega), List.sum_append, ih (by omega), getD_get]
    have : (tally bs l).getD k 0 = l.countP fun v => place bs v == k := tally_wd bs l k (by omega)
    rw [this]
    simp only [List.sum_cons, List.sum_nil, Nat.add_zero]
    clear this ih
    induction l with
    | nil => rfl
    | cons x r ih =>
      simp only [List.countP_cons]
      by_cases h1 : place bs x < k
      · have : ¬ place bs x = k := by omega
        have h3 : place bs x < k + 1 := by omega
        simp [h1, this, h3]; omega
      · by_cases h2 : place bs x = k
        · simp [h2]; omega
        · have h3 : ¬ place bs x < k + 1 := by omega
          simp [h1, h2, h3]; omega
theorem tally_sum_le (bs l : List Nat) : (tally bs l).sum ≤ l.length := by
  have h := cum_tally bs l bs.length (Nat.le_refl _)
  rw [List.take_of_length_le (by rw [tally_len]; exact Nat.le_refl _)] at h
  rw [h]
  exact List.countP_le_length
end Go.Proofs.YtebjclmbacmilaaGreatDoor

namespace Go.Proofs.YtebjclmbacmilaaGreatDoor
open Go.RowKit

/-- The state of a histogram that has observed l since t0. -/
structure Fits (s : HSt) (bs : List Nat) (t0 : Int) (l : List Nat) : Prop where
  n : s.n = l.length
  bounds : s.bounds = bs
  sch : s.sch = -2147483648
  last : s.last = t0
  sum : SumTo l (s.c s.hot).sum
  bk : (s.c s.hot).bk = tally bs l
  marks : s.marks = List.replicate (bs.length + 1) .nilIface
theorem Fits.new (bs : List Nat) (zt maxZero : Nat) (maxB mr t0 ttl : Int) (nex : Value) : Fits (newS bs (-2147483648) zt maxZero maxB mr t0 ttl nex) bs t0 [] where
  n := rfl
  bounds := rfl
  sch := rfl
  last := rfl
  sum := SumTo.nil
  bk := (tally_nil bs).symm
  marks := rfl
theorem Fits.obs {s : HSt} {bs : List Nat} {t0 : Int} {l : List Nat} (h : Fits s bs t0 l) (v r : Nat) (hr : AddTo (s.c s.hot).sum v r) : Fits (s.obs (place bs v) r) bs t0 (l ++ [v]) where
  n := by show s.n + 1 = _; rw [h.n]; simp
  bounds := h.bounds
  sch := h.sch
  last := h.last
  sum := by
    have e : (s.obs (place bs v) r).c (s.obs (place bs v) r).hot = (s.c s.hot).obs (place bs v) r := if_pos rfl
    rw [e]; exact h.sum.snoc hr
  bk := by
    have e : (s.obs (place bs v) r).c (s.obs (place bs v) r).hot = (s.c s.hot).obs (place bs v) r := if_pos rfl
    rw [e, tally_snoc, ← h.bk]; rfl
  marks := h.marks
theorem Fits.wrote {s : HSt} {bs : List Nat} {t0 : Int} {l : List Nat} (h : Fits s bs t0 l) (r : Nat) (hr : AddTo 0 (s.c s.hot).sum r) : Fits (s.wrote r) bs t0 l where
  n := h.n
  bounds := h.bounds
  sch := h.sch
  last := h.last
  sum := by
    have e : (s.wrote r).c (s.wrote r).hot = (s.c (!s.hot)).warm (s.c s.hot) r := wrote_new s r
    rw [e]; exact h.sum.again hr
  bk := by
    have e : (s.wrote r).c (s.wrote r).hot = (s.c (!s.hot)).warm (s.c s.hot) r := wrote_new s r
    rw [e]; exact h.bk
  marks := h.marks

/-- What is written of the observations l. -/
structure Rec (bs : List Nat) (t0 : Int) (h : HRec) (l : List Nat) : Prop where
  cnt : h.cnt = l.length
  sum : SumTo l h.sum
  created : h.created = t0
  bks : h.bks.map (fun x => (x.cum, x.up)) = (List.range bs.length).map (fun i => (cumN (tally bs l) (i + 1), wd bs i))
/-- The written histograms are those of these observations. -/
structure Outs (bs : List Nat) (t0 : Int) (hs : List HRec) (ls : List (List Nat)) : Prop where
  len : hs.length = ls.length
  ok : ∀ (i : Nat) h l, hs[i]? = some h → ls[i]? = some l → Rec bs t0 h l
theorem Outs.nil (bs : List Nat) (t0 : Int) : Outs bs t0 [] [] := ⟨rfl, fun i h l h1 => by simp at h1⟩
theorem Outs.snoc {bs : List Nat} {t0 : Int} {hs : List HRec} {ls : List (List Nat)} (O : Outs bs t0 hs ls) {h : HRec} {l : List Nat} (hr : Rec bs t0 h l) : Outs bs t0 (hs ++ [h]) (ls ++ [l]) where
  len := by simp [O.len]
  ok := fun i h' l' h1 h2 => by
    rcases Nat.lt_or_ge i hs.length with hi | hi
    · rw [List.getElem?_append_left hi] at h1
      rw [List.getElem?_append_left (by rw [← O.len]; exact hi)] at h2
      exact O.ok i h' l' h1 h2
    · rw [List.getElem?_append_right hi] at h1
      rw [List.getElem?_append_right (by rw [← O.len]; exact hi), ← O.len] at h2
      cases hk : i - hs.length with
      | zero =>
        rw [hk] at h1 h2
        simp only [List.getElem?_cons_zero, Option.some.injEq] at h1 h2
        rw [← h1, ← h2]; exact hr
      | succ j => rw [hk] at h1; simp at h1

/-- A step: its kind, its number, its labels, its time. -/
structure SD where
  kind : Int
  value : Nat
  la : Option Addr
  ln : Nat
  lc : Nat
  at_ : Int
def sCl (x : SD) : List Value := [.int .i64 x.kind, .float .f64 x.value, .slice x.la x.ln x.lc, .int .i64 x.at_]
def sRow (l : List SD) : List Value := l.flatMap sCl
def obsOf (l : List SD) : List Nat := (l.filter fun x => decide (x.kind ≠ 2)).map SD.value
def outsFrom (acc : List Nat) : List SD → List (List Nat)
  | [] => []
  | x :: r => if x.kind = 2 then acc :: outsFrom acc r else outsFrom (acc ++ [x.value]) r
def outsOf (l : List SD) : List (List Nat) := outsFrom [] l
theorem obsOf_snoc (l : List SD) (x : SD) : obsOf (l ++ [x]) = if x.kind = 2 then obsOf l else obsOf l ++ [x.value] := by
  unfold obsOf
  rw [List.filter_append, List.map_append]
  split
  · rename_i h; simp [h]
  · rename_i h; simp [h]
theorem outsFrom_snoc (l : List SD) (x : SD) : ∀ acc, outsFrom acc (l ++ [x]) = outsFrom acc l ++ (if x.kind = 2 then [acc ++ obsOf l] else []) := by
  induction l with
  | nil =>
    intro acc
    simp only [List.nil_append, outsFrom]
    split
    · simp [obsOf]
    · rfl
  | cons y r ih =>
    intro acc
    simp only [List.cons_append, outsFrom]
    have e : obsOf (y :: r) = if y.kind = 2 then obsOf r else y.value :: obsOf r := by
      unfold obsOf
      split
      · rename_i h; simp [h]
      · rename_i h; simp [h]
    by_cases hy : y.kind = 2
    · rw [if_pos hy, if_pos hy, ih, e, if_pos hy]; simp
    · rw [if_neg hy, if_neg hy, ih, e, if_neg hy]; simp
theorem outsOf_snoc (l : List SD) (x : SD) : outsOf (l ++ [x]) = outsOf l ++ (if x.kind = 2 then [obsOf l] else []) := by
  unfold outsOf; rw [outsFrom_snoc]; simp

set_option maxRecDepth 100000 in
/-- A step inside DoorTry. -/
theorem tryStep (X hb ob base : Nat) (p : Pl) (s : HSt) (bs : List Nat) (t0 : Int) (l : List Nat) (hs : List HRec) (ls : List (List Nat)) (x : SD) (W : World)
    (H : HIn W p s) (F : Fits s bs t0 l) (O : OIn W base ob hs) (G : Outs bs t0 hs ls) (hx : IsBlock W X (sCl x)) (hv : IsBlock W hb [.iface 227 (.pointer (some ⟨p.h, 0, none⟩))])
    (hown : ∀ k, p.own k ∨ k = p.u → k < base ∧ k ≠ ob) (hlab : p.labels = .slice none 0 0) (hbw : base ≤ W.heap.size) (hk : x.kind = 0 ∨ x.kind = 2) (hbd : Incr bs) (hbl : bs.length ≤ 1048577) (hll : l.length ≤ 4194304) (hhl : hs.length ≤ 4194304) :
    Calls Tryz.prog 53 #[.func (.func 54) #[] #[.pointer (some ⟨X, 0, none⟩), .pointer (some ⟨hb, 0, none⟩), .pointer (some ⟨ob, 0, none⟩)]] W fun e w' => e = .returned (.bool true) ∧
      ∃ (s' : HSt) (hs' : List HRec), HIn w' p s' ∧ Fits s' bs t0 (if x.kind = 2 then l else l ++ [x.value]) ∧ OIn w' base ob hs' ∧ Outs bs t0 hs' (ls ++ if x.kind = 2 then [l] else []) ∧ Only (fun k => p.own k ∨ k = ob ∨ base ≤ k ∧ Is92 W k) W w' := by
  have hol := O.lt
  have hsz : (W.alloc (.cells #[.bool false] 4)).heap.size = W.heap.size + 1 := World.size_alloc _ _
  have h0 : (W.alloc (.cells #[.bool false] 4)).heap[W.heap.size]? = some (.cells #[.bool false] 4 (0, 0)) := get_new _ _ _ rfl
  have hal : Only (fun _ => False) W (W.alloc (.cells #[.bool false] 4)) := (Only.refl _ W).alloc _
  have h92 : ∀ k, Is92 (W.alloc (.cells #[.bool false] 4)) k → Is92 W k := fun k ⟨cur, fr, h⟩ => by
    rcases Nat.lt_trichotomy k W.heap.size with hk | hk | hk
    · exact ⟨cur, fr, by rw [get_old _ _ _ hk] at h; exact h⟩
    · subst hk; rw [h0] at h; simp at h
    · rw [Array.getElem?_eq_none (by omega)] at h; cases h
  have hxA := hx.alloc (.cells #[.bool false] 4)
  have hvA := hv.alloc (.cells #[.bool false] 4)
  have hOwnLt : ∀ k, p.own k ∨ k = p.u → k < W.heap.size := fun k hk => by have := (hown k hk).1; omega
  refine (doorTry_ok 54 _ W (fun w1 => ∃ (s' : HSt) (hs' : List HRec), HIn w1 p s' ∧ Fits s' bs t0 (if x.kind = 2 then l else l ++ [x.value]) ∧ OIn w1 base ob hs' ∧ Outs bs t0 hs' (ls ++ if x.kind = 2 then [l] else []) ∧ Only (fun k => p.own k ∨ k = ob ∨ base ≤ k ∧ Is92 W k) (W.alloc (.cells #[.bool false] 4)) w1) (fun _ => rfl) ?_).mono ?_
  · have hkeep : ∀ {w1 : World}, Only (fun k => p.own k ∨ k = ob ∨ base ≤ k ∧ Is92 W k) (W.alloc (.cells #[.bool false] 4)) w1 → IsBlock w1 W.heap.size [.bool false] := fun ho => ho.isBlock ⟨4, h0⟩ (fun h => by
      rcases h with h | h | ⟨_, cur, fr, h⟩
      · have := hOwnLt _ (.inl h); omega
      · omega
      · rw [Array.getElem?_eq_none (Nat.le_refl _)] at h; cases h)
    have hfl : s.c s.hot = s.c s.hot := rfl
    rcases hk with hk | hk
    · have c0 := hxA.cell (i := 0) (v := .int .i64 x.kind) rfl
      rw [hk] at c0
      refine (step_observe X hb ob p s x.value _ (H.kept hal) F.sch (by have := F.n; omega) (by rw [F.bounds]; exact hbd) (by rw [F.bounds]; omega) c0 (hxA.cell rfl) (hvA.cell rfl)).mono ?_
      rintro e w1 ⟨rfl, r, hadd, hin, hon⟩
      have hon' : Only (fun k => p.own k ∨ k = ob ∨ base ≤ k ∧ Is92 W k) (W.alloc (.cells #[.bool false] 4)) w1 := hon.mono (fun _ _ h => .inl h)
      rw [F.bounds] at hin
      have hk2 : ¬ x.kind = 2 := by omega
      refine ⟨rfl, hkeep hon', s.obs (place bs x.value) r, hs, hin, by rw [if_neg hk2]; exact F.obs _ _ hadd, (O.mono hal (fun _ h => h.elim)).mono hon (fun k hk => hown k (.inl hk)), by rw [if_neg hk2, List.append_nil]; exact G, hon'⟩
    · have c0 := hxA.cell (i := 0) (v := .int .i64 x.kind) rfl
      rw [hk] at c0
      have hsum : (s.c s.hot).bk.sum ≤ 4611686018427387904 := by rw [F.bk]; have := tally_sum_le bs l; omega
      refine (step_write X hb ob base p s hs _ (H.kept hal) F.sch (by have := F.n; omega) (by rw [F.bounds]; exact hbl) hlab (fun m hm => by rw [F.marks] at hm; exact (List.mem_replicate.1 hm).2) hsum c0 (hvA.cell rfl) (O.mono hal (fun _ h => h.elim)) hown (by omega) hhl).mono ?_
      rintro e w1 ⟨rfl, r, h, hadd, hin, hout, h1, h2, h3, h4, hon⟩
      have hon' : Only (fun k => p.own k ∨ k = ob ∨ base ≤ k ∧ Is92 W k) (W.alloc (.cells #[.bool false] 4)) w1 := hon.mono (fun k _ h => h.imp id (fun h => h.imp id (fun h => ⟨h.1, h92 k h.2⟩)))
      have hrec : Rec bs t0 h l := ⟨by rw [h1, F.n], by rw [h2]; exact F.sum, by rw [h3, F.last], by
        have := congrArg (List.map fun (y : Nat × Nat × Value) => (y.1, y.2.1)) h4
        rw [F.bounds, F.bk] at this
        simpa [bVal, Function.comp_def] using this⟩
      refine ⟨rfl, hkeep hon', s.wrote r, hs ++ [h], hin, by rw [if_pos hk]; exact F.wrote r hadd, hout, by rw [if_pos hk]; exact G.snoc hrec, hon'⟩
  · rintro e w' ⟨rfl, w1, ⟨s', hs', hin, hf, ho, hg, hon⟩, rfl⟩
    have hst : Only (fun k => k = W.heap.size) w1 (w1.setCell ⟨W.heap.size, 0, none⟩ (.bool true)) := (Only.refl (fun k => k = W.heap.size) w1).setCell (p := ⟨W.heap.size, 0, none⟩) (.inl rfl) _
    have hob : ob < W.heap.size := by omega
    refine ⟨rfl, s', hs', hin.mono hst (fun k hk hs => by have := hOwnLt k hk.symm; omega), hf, ?_, hg, Only.widen (hal.mono (fun _ _ h => h.elim) |>.trans hon) hst (fun j hj => by omega)⟩
    obtain ⟨v, hv1, hv2⟩ := ho.var
    have hn : ∀ {e s n : Nat} {v : Value} {xs : List Value}, w1.ownsRow base e s v n xs → e ≠ 4 → (w1.setCell ⟨W.heap.size, 0, none⟩ (.bool true)).ownsRow base e s v n xs := fun h he => hst.ownsRow h (fun k hk hs => by
      subst hs
      rcases h.2 with ⟨rfl, _⟩ | ⟨g, cap, cur, rfl, _, hg, _⟩
      · cases hk
      · have e1 : g = W.heap.size := by simpa [Value.ownBlock] using hk
        subst e1
        have := hon.block W.heap.size (by omega) (fun h => by
          rcases h with h | h | ⟨_, cur, fr, h⟩
          · have := hOwnLt _ (.inl h); omega
          · omega
          · rw [Array.getElem?_eq_none (Nat.le_refl _)] at h; cases h)
        rw [h0, hg] at this
        simp only [Option.some.injEq, Obj.cells.injEq] at this
        exact he this.2.1)
    exact ⟨⟨v, hst.isBlock hv1 (fun h => by omega), hn hv2 (by decide)⟩, fun r hr => hn (ho.bks r hr) (by decide), ho.lt⟩
end Go.Proofs.YtebjclmbacmilaaGreatDoor

namespace Go.Proofs.YtebjclmbacmilaaGreatDoor
open Go.RowKit

/-- x is a slice of m elements, of size cells each, that holds news; nil included. -/
def SrcIs (w : World) (x : Value) (size m : Nat) (news : List Value) : Prop :=
  (x = .slice none 0 0 ∧ m = 0 ∧ news = []) ∨ ∃ ad c, x = .slice (some ad) m c ∧ news.length = m * size ∧ ∀ j u, news[j]? = some u → w.cell? (ad.add j) = some u

theorem SrcIs.mono {w w' : World} {x : Value} {size m : Nat} {news : List Value} (h : SrcIs w x size m news) (hw : ∀ a v, w.cell? a = some v → w'.cell? a = some v) : SrcIs w' x size m news := by
  rcases h with h | ⟨ad, c, h1, h2, h3⟩
  · exact .inl h
  · exact .inr ⟨ad, c, h1, h2, fun j u hj => hw _ _ (h3 j u hj)⟩

section
variable {P : Program} (w : World)
theorem run_append_src (t ty : TypeId) (base : Nat) (e : TypeId) (i : TypeInfo) (z : Value) (size bytes : Nat) (ht : P.underlying t = some (.slice e)) (hi : P.info? e = some i) (hz : i.zero = some z)
    (hsize : i.size = size) (hby : i.bytes = bytes) (hzs : z.cells.size = size) (hsz : 0 < size)
    (v : Value) (n : Nat) (xs : List Value) (hown : w.ownsRow base e size v n xs)
    (x : Value) (m : Nat) (news : List Value) (hx : SrcIs w x size m news) (h1 : ∀ u ∈ news, u.oneCell' = true)
    (h63 : n + m ≤ maxLen) (hbytes : (n + m) * bytes ≤ 140737488355328) (hbase : base ≤ w.heap.size) :
    ∃ v' w', (Builtin.append_ #[t, t] ty #[v, x]).run P w = .ok v' w' ∧ w'.ownsRow base e size v' (n + m) (xs ++ news) ∧ w.grownBy w' v.ownBlock ∧ (m = 0 → v = .slice none 0 0 → v' = .slice none 0 0) := by
  rcases hx with ⟨rfl, rfl, rfl⟩ | ⟨ad, c, rfl, h2, h3⟩
  · subst hsize
    refine ⟨v, w, run_append_owned_none (P := P) w base t ty e i _ ht hi v n xs hown, by simpa using hown, ⟨rfl, rfl, rfl, Nat.le_refl _, fun _ _ _ => rfl⟩, fun _ h => h⟩
  · obtain ⟨v', w', r1, r2, r3, r4⟩ := run_append_own (P := P) w base t ty e i z size bytes ht hi hz hsize hby hzs hsz v n xs hown ad m c news h2 h3 h1 h63 hbytes hbase
    exact ⟨v', w', r1, r2, r3, fun hm hv => r4.2 ⟨hv, hm⟩⟩
theorem wp_append_src {o : Oper} {a : Act} {K : Act → World → Prop} {Q : Exit → Act → World → Prop} (s xo : Operand) (t : TypeId)
    (ho : o.op = .call { callee := .builtin .append, args := #[s, xo], argTypes := #[t, t] })
    (base : Nat) (e : TypeId) (i : TypeInfo) (z : Value) (size bytes : Nat) (ht : P.underlying t = some (.slice e)) (hi : P.info? e = some i) (hz : i.zero = some z)
    (hsize : i.size = size) (hby : i.bytes = bytes) (hzs : z.cells.size = size) (hsz : 0 < size)
    (v : Value) (n : Nat) (xs : List Value) (hs : a.eval s = v) (hown : w.ownsRow base e size v n xs)
    (x : Value) (m : Nat) (news : List Value) (hxo : a.eval xo = x) (hx : SrcIs w x size m news) (h1 : ∀ u ∈ news, u.oneCell' = true)
    (h63 : n + m ≤ maxLen) (hbytes : (n + m) * bytes ≤ 140737488355328) (hbase : base ≤ w.heap.size)
    (h : ∀ v' w', w'.ownsRow base e size v' (n + m) (xs ++ news) → w.grownBy w' v.ownBlock → (m = 0 → v = .slice none 0 0 → v' = .slice none 0 0) → K (a.put o.dst v') w') : o.wp P a w K Q := by
  obtain ⟨v', w', hr, h2, h3, h4⟩ := run_append_src (P := P) w t o.type base e i z size bytes ht hi hz hsize hby hzs hsz v n xs hown x m news hx h1 h63 hbytes hbase
  unfold Oper.wp execOp
  simp only [ho, resolve, invoke, builtin, Sem.run_bind, Sem.run_pure, Result.andThen_ok, List.map_toArray, List.map_cons, List.map_nil, hs, hxo, hr]
  exact h v' w' h2 h3 h4
theorem step_append_src {ops : Array Oper} {o : Oper} {a : Act} {K : Act → World → Prop} {Q : Exit → Act → World → Prop} {E : Prop} (hgd : o.guard = none) (s xo : Operand) (t : TypeId)
    (ho : o.op = .call { callee := .builtin .append, args := #[s, xo], argTypes := #[t, t] })
    (base : Nat) (e : TypeId) (i : TypeInfo) (z : Value) (size bytes : Nat) (ht : P.underlying t = some (.slice e)) (hi : P.info? e = some i) (hz : i.zero = some z)
    (hsize : i.size = size) (hby : i.bytes = bytes) (hzs : z.cells.size = size) (hsz : 0 < size)
    (v : Value) (n : Nat) (xs : List Value) (hs : a.eval s = v) (hown : w.ownsRow base e size v n xs)
    (x : Value) (m : Nat) (news : List Value) (hxo : a.eval xo = x) (hx : SrcIs w x size m news) (h1 : ∀ u ∈ news, u.oneCell' = true)
    (h63 : n + m ≤ maxLen) (hbytes : (n + m) * bytes ≤ 140737488355328) (hbase : base ≤ w.heap.size)
    (h : ∀ v' w', w'.ownsRow base e size v' (n + m) (xs ++ news) → w.grownBy w' v.ownBlock → (m = 0 → v = .slice none 0 0 → v' = .slice none 0 0) → K (a.put o.dst v') w') :
    if Region.wanted o (yielded ops a.tmps) = true then Oper.wp P o a w K Q else E := by
  have hw : Region.wanted o (yielded ops a.tmps) = true := by simp [Region.wanted, hgd]
  rw [if_pos hw]
  exact wp_append_src w s xo t ho base e i z size bytes ht hi hz hsize hby hzs hsz v n xs hs hown x m news hxo hx h1 h63 hbytes hbase h
theorem wpList_append_src {ops : Array Oper} {rest : List Oper} {o : Oper} {a : Act} {Q : Exit → Act → World → Prop} (hgd : o.guard = none) (s xo : Operand) (t : TypeId)
    (ho : o.op = .call { callee := .builtin .append, args := #[s, xo], argTypes := #[t, t] })
    (base : Nat) (e : TypeId) (i : TypeInfo) (z : Value) (size bytes : Nat) (ht : P.underlying t = some (.slice e)) (hi : P.info? e = some i) (hz : i.zero = some z)
    (hsize : i.size = size) (hby : i.bytes = bytes) (hzs : z.cells.size = size) (hsz : 0 < size)
    (v : Value) (n : Nat) (xs : List Value) (hs : a.eval s = v) (hown : w.ownsRow base e size v n xs)
    (x : Value) (m : Nat) (news : List Value) (hxo : a.eval xo = x) (hx : SrcIs w x size m news) (h1 : ∀ u ∈ news, u.oneCell' = true)
    (h63 : n + m ≤ maxLen) (hbytes : (n + m) * bytes ≤ 140737488355328) (hbase : base ≤ w.heap.size)
    (h : ∀ v' w', w'.ownsRow base e size v' (n + m) (xs ++ news) → w.grownBy w' v.ownBlock → (m = 0 → v = .slice none 0 0 → v' = .slice none 0 0) → wpList P ops Q rest (a.put o.dst v') w') : wpList P ops Q (o :: rest) a w :=
  wpList_plain hgd fun _ hK => wp_append_src w s xo t ho base e i z size bytes ht hi hz hsize hby hzs hsz v n xs hs hown x m news hxo hx h1 h63 hbytes hbase fun v' w' h2 h3 h4 => hK _ _ (h v' w' h2 h3 h4)
end

/-- What a value that owns cells of one cell each looks like. -/
theorem ownsRow_block1 {w : World} {base : Nat} {e : TypeId} {v : Value} {n : Nat} {xs : List Value} (h : w.ownsRow base e 1 v n xs) (hn : 0 < n) :
    ∃ g cap spare, v = .slice (some ⟨g, 0, none⟩) n cap ∧ base ≤ g ∧ n ≤ cap ∧ IsBlock w g (xs ++ spare) := by
  obtain ⟨_, h2⟩ := h
  rcases h2 with ⟨_, h0⟩ | ⟨g, cap, cur, hv, hg, hh, hc, _, _, ht⟩
  · omega
  · refine ⟨g, cap, cur.toList.drop (n * 1), hv, hg, hc, e, ?_⟩
    rw [← ht, List.take_append_drop]
    exact hh
theorem ownsRow_nil_of {w : World} {base : Nat} {e : TypeId} {size : Nat} {v : Value} {xs : List Value} (h : w.ownsRow base e size v 0 xs) (hg : v.ownBlock = none) : v = .slice none 0 0 := by
  rcases h.2 with ⟨hv, _⟩ | ⟨g, cap, cur, hv, _⟩
  · exact hv
  · rw [hv] at hg; cases hg
end Go.Proofs.YtebjclmbacmilaaGreatDoor
