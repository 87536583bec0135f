/- Plain laws of a histogram with some of the bounds of another one: counts at these bounds, sums. Conditions: the bounds are in order. -/
import Derived.Test.YtebjclmbacmilaaGreatDoorRg
namespace Go.Proofs.YtebjclmbacmilaaGreatDoor
open Go.RowKit

/-- The places among the first n that are kept; the bounds there. -/
def keptI (keep : List Bool) (n : Nat) : List Nat := (List.range n).filter fun i => keep.getD i false
def kept (bs : List Nat) (keep : List Bool) (n : Nat) : List Nat := (keptI keep n).map (wd bs)
theorem keptI_succ (keep : List Bool) (n : Nat) : keptI keep (n + 1) = keptI keep n ++ if keep.getD n false then [n] else [] := by
  unfold keptI
  rw [List.range_succ, List.filter_append]
  congr 1
  by_cases h : keep.getD n false = true
  · rw [if_pos h, List.filter_cons_of_pos (p := fun i => keep.getD i false) h]; rfl
  · rw [if_neg h, List.filter_cons_of_neg (p := fun i => keep.getD i false) h]; rfl
theorem kept_succ (bs : List Nat) (keep : List Bool) (n : Nat) : kept bs keep (n + 1) = kept bs keep n ++ if keep.getD n false then [wd bs n] else [] := by
  unfold kept
  rw [keptI_succ, List.map_append]
  congr 1
  split <;> rfl
theorem keptI_stop (keep : List Bool) {n m : Nat} (h : keep.length ≤ n) (hm : n ≤ m) : keptI keep m = keptI keep n := by
  obtain ⟨d, rfl⟩ : ∃ d, m = n + d := ⟨m - n, by omega⟩
  clear hm
  induction d with
  | zero => rfl
  | succ d ih =>
    rw [← Nat.add_assoc, keptI_succ, ih]
    have : keep.getD (n + d) false = false := by rw [List.getD_eq_getElem?_getD, List.getElem?_eq_none (by omega)]; rfl
    rw [this]; simp
theorem keptI_lt {keep : List Bool} {n i : Nat} (h : i ∈ keptI keep n) : i < n := List.mem_range.1 (List.mem_filter.1 h).1
theorem keptI_len (keep : List Bool) (n : Nat) : (keptI keep n).length ≤ n := by
  have := List.length_filter_le (fun i => keep.getD i false) (List.range n)
  rw [List.length_range] at this
  exact this
theorem keptI_pair (keep : List Bool) (n : Nat) : (keptI keep n).Pairwise (· < ·) := List.Pairwise.filter _ List.pairwise_lt_range
theorem kept_len (bs : List Nat) (keep : List Bool) (n : Nat) : (kept bs keep n).length = (keptI keep n).length := by simp [kept]
/-- All that is kept: what is kept up to i, and what follows. -/
theorem keptI_split (keep : List Bool) {i n : Nat} (h : i ≤ n) : keptI keep n = keptI keep i ++ (List.range' i (n - i)).filter fun i => keep.getD i false := by
  unfold keptI
  rw [List.range_eq_range', List.range_eq_range', ← List.filter_append]
  congr 1
  have e := List.range'_append_1 (s := 0) (m := i) (n := n - i)
  rw [Nat.zero_add] at e
  rw [e]
  congr 1
  omega
theorem keptI_at {keep : List Bool} {i n : Nat} (h : i < n) (hk : keep.getD i false = true) : (keptI keep n)[(keptI keep i).length]? = some i := by
  rw [keptI_split keep (Nat.le_of_lt h), List.getElem?_append_right (Nat.le_refl _), Nat.sub_self]
  obtain ⟨m, hm⟩ : ∃ m, n - i = m + 1 := ⟨n - i - 1, by omega⟩
  rw [hm, List.range'_succ, List.filter_cons_of_pos (p := fun i => keep.getD i false) hk]
  rfl
theorem keptI_next {keep : List Bool} {i n j : Nat} (h : i < n) (hk : ¬ keep.getD i false = true) (hj : (keptI keep n)[(keptI keep i).length]? = some j) : i < j ∧ j < n := by
  rw [keptI_split keep (Nat.le_of_lt h), List.getElem?_append_right (Nat.le_refl _), Nat.sub_self] at hj
  obtain ⟨m, hm⟩ : ∃ m, n - i = m + 1 := ⟨n - i - 1, by omega⟩
  rw [hm, List.range'_succ, List.filter_cons_of_neg (p := fun i => keep.getD i false) hk] at hj
  have := List.mem_range'_1.1 (List.mem_filter.1 (List.mem_of_getElem? hj)).1
  omega
theorem wd_kept {bs : List Nat} {keep : List Bool} {n k j : Nat} (h : (keptI keep n)[k]? = some j) : wd (kept bs keep n) k = wd bs j := by
  unfold kept
  show ((keptI keep n).map (wd bs)).getD k 0 = _
  rw [List.getD_eq_getElem?_getD, List.getElem?_map, h]
  rfl
theorem incr_kept {bs : List Nat} {keep : List Bool} (h : Incr bs) : Incr (kept bs keep bs.length) := by
  refine ⟨fun b hb => ?_, fun i j hij hj => ?_⟩
  · obtain ⟨i, hi, rfl⟩ := List.mem_map.1 hb
    exact h.1 _ (wd_mem (keptI_lt hi))
  · rw [kept_len] at hj
    have hp := List.pairwise_iff_getElem.1 (keptI_pair keep bs.length) i j (by omega) hj hij
    have e1 : (keptI keep bs.length)[i]? = some _ := List.getElem?_eq_getElem (by omega)
    have e2 : (keptI keep bs.length)[j]? = some _ := List.getElem?_eq_getElem hj
    show Fl.key (wd _ i) < Fl.key (wd _ j)
    rw [wd_kept e1, wd_kept e2]
    exact h.2 _ _ hp (keptI_lt (List.getElem_mem hj))

/-- What is counted up to a bound: what is not greater. -/
theorem place_lt {bs : List Nat} {v i : Nat} (h : Incr bs) (hi : i < bs.length) : place bs v < i + 1 ↔ fle v (wd bs i) = true := by
  constructor
  · intro hp
    have hp' : place bs v < bs.length := by omega
    have hf : fle v (bs[place bs v]'hp') = true := List.findIdx_getElem (w := hp')
    rw [getD_get] at hf
    obtain ⟨h1, h2, h3⟩ := (fle_iff _ _).1 hf
    have := h.key_le (i := place bs v) (j := i) (by omega) hi
    exact (fle_iff _ _).2 ⟨h1, h.1 _ (wd_mem hi), Int.le_trans h3 this⟩
  · intro hf
    rcases Nat.lt_or_ge i (place bs v) with hlt | hge
    · have hn := List.not_of_lt_findIdx (p := fle v) (xs := bs) hlt
      rw [getD_get] at hn
      have hf' : fle v (bs.getD i 0) = true := hf
      rw [hf'] at hn
      simp at hn
    · omega
theorem cum_at {bs l : List Nat} {i : Nat} (h : Incr bs) (hi : i < bs.length) : cumN (tally bs l) (i + 1) = l.countP fun v => fle v (wd bs i) := by
  unfold cumN
  rw [cum_tally _ _ _ hi]
  refine List.countP_congr fun v _ => ?_
  rw [decide_eq_true_iff]
  exact place_lt h hi
theorem cum_kept {bs l : List Nat} {keep : List Bool} {k j : Nat} (h : Incr bs) (hk : (keptI keep bs.length)[k]? = some j) :
    cumN (tally (kept bs keep bs.length) l) (k + 1) = cumN (tally bs l) (j + 1) := by
  have hkl : k < (keptI keep bs.length).length := by
    rcases Nat.lt_or_ge k (keptI keep bs.length).length with h | h
    · exact h
    · rw [List.getElem?_eq_none h] at hk; cases hk
  rw [cum_at (incr_kept h) (by rw [kept_len]; exact hkl), cum_at h (keptI_lt (List.mem_of_getElem? hk)), wd_kept hk]

/-- Sums of the same numbers. -/
theorem SumTo.same {l : List Nat} {s r : Nat} (h : SumTo l s) (h' : SumTo l r) : s = r ∧ Fl.isNaN s = false ∨ Fl.isNaN s = true ∧ Fl.isNaN r = true := by
  rcases h with h | ⟨h, hn, _⟩
  · rcases h' with h' | ⟨h', _⟩
    · rw [h] at h'; cases h'
      exact .inl ⟨rfl, (fsum_ok l s h).2.2⟩
    · rw [h] at h'; cases h'
  · rcases h' with h' | ⟨_, hn', _⟩
    · rw [h] at h'; cases h'
    · exact .inr ⟨hn, hn'⟩

/-- No bound is cut twice. -/
theorem fgt_max {x : Nat} (h : fgt x 9218868437227405311 = true) : Fl.key x = 9218868437227405312 := by
  obtain ⟨h1, _, h3⟩ := (fgt_iff _ _).1 h
  rw [key_max.1] at h3
  have e1 : Ieee.double.signWeight = 2 ^ 63 := rfl
  rw [Fl.isNaN_iff] at h1
  have h1' : ¬ 2047 * 2 ^ 52 < Fl.rung x := by simpa using h1
  unfold Fl.key at h3 ⊢
  split at h3
  · omega
  · rw [if_neg (by assumption)]; omega
theorem incr_top {bs : List Nat} (h : Incr bs) {i j : Nat} (hij : i < j) (hj : j < bs.length) : fgt (wd bs i) 9218868437227405311 = false := by
  cases hg : fgt (wd bs i) 9218868437227405311 with
  | false => rfl
  | true =>
    exfalso
    have hi := fgt_max hg
    have hk := h.2 i j hij hj
    have hjn := h.1 _ (getD_mem bs j hj)
    have hi' : Fl.key (bs.getD i 0) = 9218868437227405312 := hi
    have hgj : fgt (bs.getD j 0) 9218868437227405311 = true := (fgt_iff _ _).2 ⟨hjn, by decide +kernel, by rw [key_max.1]; omega⟩
    have := fgt_max hgj
    omega
theorem cut_top {bs : List Nat} (h : Incr bs) : ∀ b ∈ cutBs bs, fgt b 9218868437227405311 = false := by
  intro b hb
  obtain ⟨i, hi, rfl⟩ := List.getElem_of_mem hb
  rw [getD_get]
  by_cases h0 : 0 < bs.length
  · have hc := cut_pos h0
    by_cases hg : fgt (wd bs (bs.length - 1)) 9218868437227405311 = true
    · rw [if_pos hg] at hc
      rw [hc] at hi ⊢
      rw [List.length_dropLast] at hi
      have e : bs.dropLast.getD i 0 = wd bs i := by
        unfold wd
        rw [List.getD_eq_getElem?_getD, List.getD_eq_getElem?_getD, List.getElem?_dropLast, if_pos hi]
      rw [e]
      exact incr_top h (j := bs.length - 1) hi (by omega)
    · rw [if_neg hg] at hc
      rw [hc] at hi ⊢
      rcases Nat.lt_or_ge (i + 1) bs.length with hlt | hge
      · exact incr_top h (j := i + 1) (Nat.lt_succ_self _) hlt
      · have : i = bs.length - 1 := by omega
        subst this
        have e : bs.getD (bs.length - 1) 0 = wd bs (bs.length - 1) := rfl
        rw [e]; simpa using hg
  · have : bs = [] := List.length_eq_zero_iff.1 (by omega)
    subst this
    simp [cutBs] at hi
theorem cut_of_top {bs : List Nat} (h : ∀ b ∈ bs, fgt b 9218868437227405311 = false) : cutBs bs = bs := by
  unfold cutBs
  rw [if_neg]
  rintro ⟨h0, hg⟩
  rw [h _ (wd_mem (by omega))] at hg
  cases hg
theorem cut_cut {bs : List Nat} (h : Incr bs) : cutBs (cutBs bs) = cutBs bs := cut_of_top (cut_top h)
theorem cut_kept {bs : List Nat} {keep : List Bool} (h : ∀ b ∈ bs, fgt b 9218868437227405311 = false) : cutBs (kept bs keep bs.length) = kept bs keep bs.length := by
  refine cut_of_top fun b hb => ?_
  obtain ⟨i, hi, rfl⟩ := List.mem_map.1 hb
  exact h _ (wd_mem (keptI_lt hi))
theorem asc_of_incr {bs : List Nat} (h : Incr bs) : Asc bs := fun i hi => by
  cases hf : fge (wd bs i) (wd bs (i + 1)) with
  | false => rfl
  | true =>
    have h1 := ((fge_iff _ _).1 hf).2.2
    have h2 := h.2 i (i + 1) (Nat.lt_succ_self _) hi
    have e1 : wd bs i = bs.getD i 0 := rfl
    have e2 : wd bs (i + 1) = bs.getD (i + 1) 0 := rfl
    rw [e1, e2] at h1
    omega
theorem eff_pos {bs : List Nat} (h : 0 < bs.length) : effBs bs = bs := by
  unfold effBs
  rw [if_neg]
  rintro rfl
  exact absurd h (Nat.lt_irrefl _)
/-- Where the upper bounds of two lists meet: the same place. -/
theorem up_meets {bs : List Nat} {keep : List Bool} {i : Nat} (h : Incr bs) (hi : i < bs.length) (hlt : (keptI keep i).length < (kept bs keep bs.length).length) :
    feq (wd bs i) (wd (kept bs keep bs.length) (keptI keep i).length) = keep.getD i false := by
  rw [kept_len] at hlt
  have e := List.getElem?_eq_getElem hlt
  rw [wd_kept e]
  by_cases hk : keep.getD i false = true
  · have e2 := keptI_at hi hk
    rw [e] at e2
    rw [Option.some.inj e2, hk]
    exact (feq_iff _ _).2 ⟨h.1 _ (wd_mem hi), h.1 _ (wd_mem hi), rfl⟩
  · have e2 := keptI_next hi hk e
    have hk2 : keep.getD i false = false := by simpa using hk
    rw [hk2]
    cases hf : feq (wd bs i) (wd bs (keptI keep bs.length)[(keptI keep i).length]) with
    | false => rfl
    | true =>
      have h1 := ((feq_iff _ _).1 hf).2.2
      have h2 := h.2 _ _ e2.1 e2.2
      have e3 : ∀ k, wd bs k = bs.getD k 0 := fun _ => rfl
      rw [e3, e3] at h1
      omega
theorem kept_pos {bs : List Nat} {keep : List Bool} {i : Nat} (hi : i < bs.length) (hk : keep.getD i false = true) : (keptI keep i).length < (kept bs keep bs.length).length := by
  rw [kept_len]
  have := keptI_at hi hk
  rcases Nat.lt_or_ge (keptI keep i).length (keptI keep bs.length).length with h | h
  · exact h
  · rw [List.getElem?_eq_none h] at this; cases this
end Go.Proofs.YtebjclmbacmilaaGreatDoor
