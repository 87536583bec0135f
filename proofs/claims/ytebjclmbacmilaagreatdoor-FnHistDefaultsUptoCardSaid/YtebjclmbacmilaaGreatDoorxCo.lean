/- Plain laws of a histogram with some of the bounds of another one: counts at these bounds, sums. Conditions: the bounds are in order. FnHistCoarser answers true: a histogram with some of the bounds of another one. Conditions: as stated. -/
import Derived.Test.YtebjclmbacmilaaGreatDoorxCv
import Derived.Test.YtebjclmbacmilaaGreatDoorZo
namespace Go.Proofs.YtebjclmbacmilaaGreatDoor
open Go.RowKit

/-- The places among the first n that are kept; the bounds there. -/
def keptI (keep : List Bool) (n : Nat) : List Nat := (List.range n).filter fun i => keep.getD i false
def kept (bs : List Nat) (keep : List Bool) (n : Nat) : List Nat := (keptI keep n).map (wd bs)
theorem keptI_succ (keep : List Bool) (n : Nat) : keptI keep (n + 1) = keptI keep n ++ if keep.getD n false then [n] else [] := by
  unfold keptI
  rw [List.range_succ, List.filter_append]
  congr 1
  by_cases h : keep.getD n false = true
  · rw [if_pos h, List.filter_cons_of_pos (p := fun i => keep.getD i false) h]; rfl
  · rw [if_neg h, List.filter_cons_of_neg (p := fun i => keep.getD i false) h]; rfl
theorem kept_succ (bs : List Nat) (keep : List Bool) (n : Nat) : kept bs keep (n + 1) = kept bs keep n ++ if keep.getD n false then [wd bs n] else [] := by
  unfold kept
  rw [keptI_succ, List.map_append]
  congr 1
  split <;> rfl
theorem keptI_stop (keep : List Bool) {n m : Nat} (h : keep.length ≤ n) (hm : n ≤ m) : keptI keep m = keptI keep n := by
  obtain ⟨d, rfl⟩ : ∃ d, m = n + d := ⟨m - n, by omega⟩
  clear hm
  induction d with
  | zero => rfl
  | succ d ih =>
    rw [← Nat.add_assoc, keptI_succ, ih]
    have : keep.getD (n + d) false = false := by rw [List.getD_eq_getElem?_getD, List.getElem?_eq_none (by omega)]; rfl
    rw [this]; simp
theorem keptI_lt {keep : List Bool} {n i : Nat} (h : i ∈ keptI keep n) : i < n := List.mem_range.1 (List.mem_filter.1 h).1
theorem keptI_len (keep : List Bool) (n : Nat) : (keptI keep n).length ≤ n := by
  have := List.length_filter_le (fun i => keep.getD i false) (List.range n)
  rw [List.length_range] at this
  exact this
theorem keptI_pair (keep : List Bool) (n : Nat) : (keptI keep n).Pairwise (· < ·) := List.Pairwise.filter _ List.pairwise_lt_range
theorem kept_len (bs : List Nat) (keep : List Bool) (n : Nat) : (kept bs keep n).length = (keptI keep n).length := by simp [kept]
/-- All that is kept: what is kept up to i, and what follows. -/
theorem keptI_split (keep : List Bool) {i n : Nat} (h : i ≤ n) : keptI keep n = keptI keep i ++ (List.range' i (n - i)).filter fun i => keep.getD i false := by
  unfold keptI
  rw [List.range_eq_range', List.range_eq_range', ← List.filter_append]
  congr 1
  have e := List.range'_append_1 (s := 0) (m := i) (n := n - i)
  rw [Nat.zero_add] at e
  rw [e]
  congr 1
  omega
theorem keptI_at {keep : List Bool} {i n : Nat} (h : i < n) (hk : keep.getD i false = true) : (keptI keep n)[(keptI keep i).length]? = some i := by
  rw [keptI_split keep (Nat.le_of_lt h), List.getElem?_append_right (Nat.le_refl _), Nat.sub_self]
  obtain ⟨m, hm⟩ : ∃ m, n - i = m + 1 := ⟨n - i - 1, by omega⟩
  rw [hm, List.range'_succ, List.filter_cons_of_pos (p := fun i => keep.getD i false) hk]
  rfl
theorem keptI_next {keep : List Bool} {i n j : Nat} (h : i < n) (hk : ¬ keep.getD i false = true) (hj : (keptI keep n)[(keptI keep i).length]? = some j) : i < j ∧ j < n := by
  rw [keptI_split keep (Nat.le_of_lt h), List.getElem?_append_right (Nat.le_refl _), Nat.sub_self] at hj
  obtain ⟨m, hm⟩ : ∃ m, n - i = m + 1 := ⟨n - i - 1, by omega⟩
  rw [hm, List.range'_succ, List.filter_cons_of_neg (p := fun i => keep.getD i false) hk] at hj
  have := List.mem_range'_1.1 (List.mem_filter.1 (List.mem_of_getElem? hj)).1
  omega
theorem wd_kept {bs : List Nat} {keep : List Bool} {n k j : Nat} (h : (keptI keep n)[k]? = some j) : wd (kept bs keep n) k = wd bs j := by
  unfold kept
  show ((keptI keep n).map (wd bs)).getD k 0 = _
  rw [List.getD_eq_getElem?_getD, List.getElem?_map, h]
  rfl
theorem incr_kept {bs : List Nat} {keep : List Bool} (h : Incr bs) : Incr (kept bs keep bs.length) := by
  refine ⟨fun b hb => ?_, fun i j hij hj => ?_⟩
  · obtain ⟨i, hi, rfl⟩ := List.mem_map.1 hb
    exact h.1 _ (wd_mem (keptI_lt hi))
  · rw [kept_len] at hj
    have hp := List.pairwise_iff_getElem.1 (keptI_pair keep bs.length) i j (by omega) hj hij
    have e1 : (keptI keep bs.length)[i]? = some _ := List.getElem?_eq_getElem (by omega)
    have e2 : (keptI keep bs.length)[j]? = some _ := List.getElem?_eq_getElem hj
    show Fl.key (wd _ i) < Fl.key (wd _ j)
    rw [wd_kept e1, wd_kept e2]
    exact h.2 _ _ hp (keptI_lt (List.getElem_mem hj))

/-- What is counted up to a bound: what is not greater. -/
theorem place_lt {bs : List Nat} {v i : Nat} (h : Incr bs) (hi : i < bs.length) : place bs v < i + 1 ↔ fle v (wd bs i) = true := by
  constructor
  · intro hp
    have hp' : place bs v < bs.length := by omega
    have hf : fle v (bs[place bs v]'hp') = true := List.findIdx_getElem (w := hp')
    rw [getD_get] at hf
    obtain ⟨h1, h2, h3⟩ := (fle_iff _ _).1 hf
    have := h.key_le (i := place bs v) (j := i) (by omega) hi
    exact (fle_iff _ _).2 ⟨h1, h.1 _ (wd_mem hi), Int.le_trans h3 this⟩
  · intro hf
    rcases Nat.lt_or_ge i (place bs v) with hlt | hge
    · have hn := List.not_of_lt_findIdx (p := fle v) (xs := bs) hlt
      rw [getD_get] at hn
      have hf' : fle v (bs.getD i 0) = true := hf
      rw [hf'] at hn
      simp at hn
    · omega
theorem cum_at {bs l : List Nat} {i : Nat} (h : Incr bs) (hi : i < bs.length) : cumN (tally bs l) (i + 1) = l.countP fun v => fle v (wd bs i) := by
  unfold cumN
  rw [cum_tally _ _ _ hi]
  refine List.countP_congr fun v _ => ?_
  rw [decide_eq_true_iff]
  exact place_lt h hi
theorem cum_kept {bs l : List Nat} {keep : List Bool} {k j : Nat} (h : Incr bs) (hk : (keptI keep bs.length)[k]? = some j) :
    cumN (tally (kept bs keep bs.length) l) (k + 1) = cumN (tally bs l) (j + 1) := by
  have hkl : k < (keptI keep bs.length).length := by
    rcases Nat.lt_or_ge k (keptI keep bs.length).length with h | h
    · exact h
    · rw [List.getElem?_eq_none h] at hk; cases hk
  rw [cum_at (incr_kept h) (by rw [kept_len]; exact hkl), cum_at h (keptI_lt (List.mem_of_getElem? hk)), wd_kept hk]

/-- Sums of the same numbers. -/
theorem SumTo.same {l : List Nat} {s r : Nat} (h : SumTo l s) (h' : SumTo l r) : s = r ∧ Fl.isNaN s = false ∨ Fl.isNaN s = true ∧ Fl.isNaN r = true := by
  rcases h with h | ⟨h, hn, _⟩
  · rcases h' with h' | ⟨h', _⟩
    · rw [h] at h'; cases h'
      exact .inl ⟨rfl, (fsum_ok l s h).2.2⟩
    · rw [h] at h'; cases h'
  · rcases h' with h' | ⟨_, hn', _⟩
    · rw [h] at h'; cases h'
    · exact .inr ⟨hn, hn'⟩

/-- No bound is cut twice. -/
theorem fgt_max {x : Nat} (h : fgt x 9218868437227405311 = true) : Fl.key x = 9218868437227405312 := by
  obtain ⟨h1, _, h3⟩ := (fgt_iff _ _).1 h
  rw [key_max.1] at h3
  have e1 : Ieee.double.signWeight = 2 ^ 63 := rfl
  rw [Fl.isNaN_iff] at h1
  have h1' : ¬ 2047 * 2 ^ 52 < Fl.rung x := by simpa using h1
  unfold Fl.key at h3 ⊢
  split at h3
  · omega
  · rw [if_neg (by assumption)]; omega
theorem incr_top {bs : List Nat} (h : Incr bs) {i j : Nat} (hij : i < j) (hj : j < bs.length) : fgt (wd bs i) 9218868437227405311 = false := by
  cases hg : fgt (wd bs i) 9218868437227405311 with
  | false => rfl
  | true =>
    exfalso
    have hi := fgt_max hg
    have hk := h.2 i j hij hj
    have hjn := h.1 _ (getD_mem bs j hj)
    have hi' : Fl.key (bs.getD i 0) = 9218868437227405312 := hi
    have hgj : fgt (bs.getD j 0) 9218868437227405311 = true := (fgt_iff _ _).2 ⟨hjn, by decide +kernel, by rw [key_max.1]; omega⟩
    have := fgt_max hgj
    omega
theorem cut_top {bs : List Nat} (h : Incr bs) : ∀ b ∈ cutBs bs, fgt b 9218868437227405311 = false := by
  intro b hb
  obtain ⟨i, hi, rfl⟩ := List.getElem_of_mem hb
  rw [getD_get]
  by_cases h0 : 0 < bs.length
  · have hc := cut_pos h0
    by_cases hg : fgt (wd bs (bs.length - 1)) 9218868437227405311 = true
    · rw [if_pos hg] at hc
      rw [hc] at hi ⊢
      rw [List.length_dropLast] at hi
      have e : bs.dropLast.getD i 0 = wd bs i := by
        unfold wd
        rw [List.getD_eq_getElem?_getD, List.getD_eq_getElem?_getD, List.getElem?_dropLast, if_pos hi]
      rw [e]
      exact incr_top h (j := bs.length - 1) hi (by omega)
    · rw [if_neg hg] at hc
      rw [hc] at hi ⊢
      rcases Nat.lt_or_ge (i + 1) bs.length with hlt | hge
      · exact incr_top h (j := i + 1) (Nat.lt_succ_self _) hlt
      · have : i = bs.length - 1 := by omega
        subst this
        have e : bs.getD (bs.length - 1) 0 = wd bs (bs.length - 1) := rfl
        rw [e]; simpa using hg
  · have : bs = [] := List.length_eq_zero_iff.1 (by omega)
    subst this
    simp [cutBs] at hi
theorem cut_of_top {bs : List Nat} (h : ∀ b ∈ bs, fgt b 9218868437227405311 = false) : cutBs bs = bs := by
  unfold cutBs
  rw [if_neg]
  rintro ⟨h0, hg⟩
  rw [h _ (wd_mem (by omega))] at hg
  cases hg
theorem cut_cut {bs : List Nat} (h : Incr bs) : cutBs (cutBs bs) = cutBs bs := cut_of_top (cut_top h)
theorem cut_kept {bs : List Nat} {keep : List Bool} (h : ∀ b ∈ bs, fgt b 9218868437227405311 = false) : cutBs (kept bs keep bs.length) = kept bs keep bs.length := by
  refine cut_of_top fun b hb => ?_
  obtain ⟨i, hi, rfl⟩ := List.mem_map.1 hb
  exact h _ (wd_mem (keptI_lt hi))
theorem asc_of_incr {bs : List Nat} (h : Incr bs) : Asc bs := fun i hi => by
  cases hf : fge (wd bs i) (wd bs (i + 1)) with
  | false => rfl
  | true =>
    have h1 := ((fge_iff _ _).1 hf).2.2
    have h2 := h.2 i (i + 1) (Nat.lt_succ_self _) hi
    have e1 : wd bs i = bs.getD i 0 := rfl
    have e2 : wd bs (i + 1) = bs.getD (i + 1) 0 := rfl
    rw [e1, e2] at h1
    omega
theorem eff_pos {bs : List Nat} (h : 0 < bs.length) : effBs bs = bs := by
  unfold effBs
  rw [if_neg]
  rintro rfl
  exact absurd h (Nat.lt_irrefl _)
/-- Where the upper bounds of two lists meet: the same place. -/
theorem up_meets {bs : List Nat} {keep : List Bool} {i : Nat} (h : Incr bs) (hi : i < bs.length) (hlt : (keptI keep i).length < (kept bs keep bs.length).length) :
    feq (wd bs i) (wd (kept bs keep bs.length) (keptI keep i).length) = keep.getD i false := by
  rw [kept_len] at hlt
  have e := List.getElem?_eq_getElem hlt
  rw [wd_kept e]
  by_cases hk : keep.getD i false = true
  · have e2 := keptI_at hi hk
    rw [e] at e2
    rw [Option.some.inj e2, hk]
    exact (feq_iff _ _).2 ⟨h.1 _ (wd_mem hi), h.1 _ (wd_mem hi), rfl⟩
  · have e2 := keptI_next hi hk e
    have hk2 : keep.getD i false = false := by simpa using hk
    rw [hk2]
    cases hf : feq (wd bs i) (wd bs (keptI keep bs.length)[(keptI keep i).length]) with
    | false => rfl
    | true =>
      have h1 := ((feq_iff _ _).1 hf).2.2
      have h2 := h.2 _ _ e2.1 e2.2
      have e3 : ∀ k, wd bs k = bs.getD k 0 := fun _ => rfl
      rw [e3, e3] at h1
      omega
theorem kept_pos {bs : List Nat} {keep : List Bool} {i : Nat} (hi : i < bs.length) (hk : keep.getD i false = true) : (keptI keep i).length < (kept bs keep bs.length).length := by
  rw [kept_len]
  have := keptI_at hi hk
  rcases Nat.lt_or_ge (keptI keep i).length (keptI keep bs.length).length with h | h
  · exact h
  · rw [List.getElem?_eq_none h] at this; cases this
end Go.Proofs.YtebjclmbacmilaaGreatDoor

namespace Go.Proofs.YtebjclmbacmilaaGreatDoor
open Go.RowKit

/-- The cells of a slice of bools that came in. -/
def InBools (w : World) (ba : Option Addr) (ks : List Bool) : Prop := ∀ i, i < ks.length → ∃ b off, ba = some ⟨b, off, none⟩ ∧ w.cell? ⟨b, off + i, none⟩ = some (.bool (ks.getD i false))

theorem cells_of_owns {w : World} {b n : Nat} {fa : Option Addr} {fc : Nat} {F : List Nat} (h : w.ownsRow b 25 1 (.slice fa n fc) n (f64s F)) (hn : n = F.length) : InCells w fa F ∧ n ≤ fc ∧ (fa = none → fc = 0) ∧ (∀ a, fa = some a → ∃ b off, a = ⟨b, off, none⟩) := by
  rcases h.2 with ⟨hv, h0⟩ | ⟨g, cap, cur, hv, hg, _, hc, _⟩
  · simp only [Value.slice.injEq] at hv
    obtain ⟨rfl, _, rfl⟩ := hv
    exact ⟨fun i hi => by omega, by omega, fun _ => rfl, fun a ha => by cases ha⟩
  · simp only [Value.slice.injEq] at hv
    obtain ⟨rfl, _, rfl⟩ := hv
    refine ⟨fun i hi => ⟨g, 0, rfl, ?_⟩, hc, (fun h => by cases h), fun a ha => ⟨g, 0, (Option.some.inj ha).symm⟩⟩
    have hj := getD_f64s (l := F) (x := []) hi
    rw [List.append_nil] at hj
    have := h.cells (g := g) rfl _ _ hj
    have e : (⟨g, 0, none⟩ : Addr).add i = ⟨g, 0 + i, none⟩ := by unfold Addr.add; split <;> simp_all
    rw [e] at this
    exact this
/-- A shorter list of the same cells. -/
theorem InCells.cut {w : World} {ba : Option Addr} {bs : List Nat} (h : InCells w ba bs) : InCells w ba (cutBs bs) := by
  unfold cutBs
  split
  · intro i hi
    rw [List.length_dropLast] at hi
    obtain ⟨b, off, he, hc⟩ := h i (by omega)
    refine ⟨b, off, he, ?_⟩
    have e : wd bs.dropLast i = wd bs i := by
      unfold wd
      rw [List.getD_eq_getElem?_getD, List.getD_eq_getElem?_getD, List.getElem?_dropLast, if_pos hi]
    rw [e]; exact hc
  · exact h

/-- A block that has just been made. -/
theorem new_blk {w w' : World} (cs : List Value) (T : TypeId) (h : w' = w.alloc (.cells cs.toArray T)) : IsBlock w' w.heap.size cs ∧ Only (fun _ => False) w w' := by
  subst h
  exact ⟨IsBlock.new w cs T, (Only.refl _ w).alloc _⟩

/-- What the buckets of a converted histogram hold. -/
theorem told_cells {bs l : List Nat} {w : World} {b : Nat} {r : SR} (hR : Rec bs 0 r.asRec l) (ho : w.ownsRow b 43 6 r.q r.bks.length (bRow r.bks)) :
    r.bks.length = bs.length ∧ ∀ k, k < bs.length → ∃ g, r.qa = some ⟨g, 0, none⟩ ∧ w.cell? ⟨g, k * 6, none⟩ = some (.int .u64 (cumN (tally bs l) (k + 1))) ∧ w.cell? ⟨g, k * 6 + 1, none⟩ = some (.float .f64 (wd bs k)) := by
  have hl : r.bks.length = bs.length := by
    have h : r.asRec.bks.length = bs.length := by have := congrArg List.length hR.bks; simpa using this
    exact h
  refine ⟨hl, fun k hk => ?_⟩
  have hk' : k < r.bks.length := by omega
  obtain ⟨g, hg, hc⟩ := row_cells (cl := bCells r.bks[k]) ho hk' (Only.refl _ w) (fun j hj => flat_get bCells 6 (fun _ => rfl) r.bks k j hk' hj)
  have e := congrArg (fun q => q[k]?) hR.bks
  have e0 : (r.asRec).bks = r.bks := rfl
  simp only [e0, List.getElem?_map, List.getElem?_eq_getElem hk', Option.map_some, List.getElem?_range hk, Option.some.injEq, Prod.mk.injEq] at e
  refine ⟨g, hg, ?_, ?_⟩
  · rw [← e.1]; exact hc 0 _ rfl
  · rw [← e.2]; exact hc 1 _ rfl

/-- Between two rounds of the first loop. -/
structure CoRel (w1 : World) (C : List Nat) (keep : List Bool) (k : Nat) (v : Value) (wr : World) : Prop where
  own : wr.ownsRow w1.heap.size 25 1 v (kept C keep k).length (f64s (kept C keep k))
  only : Only (fun _ => False) w1 wr
theorem f64s_snoc (l : List Nat) (x : Nat) : f64s (l ++ [x]) = f64s l ++ [.float .f64 x] := by simp [f64s]
theorem coRel_step {w1 wr w8 : World} {C : List Nat} {keep : List Bool} {k m : Nat} {ta : Option Addr} {tc : Nat} {o : Obj} {v8 : Value} (R : CoRel w1 C keep k (.slice ta m tc) wr) (hm : m = (kept C keep k).length) (hk : keep.getD k false = true)
    (hown : w8.ownsRow w1.heap.size 25 1 v8 (m + 1) (f64s (kept C keep k) ++ [.float .f64 (wd C k)])) (hg : (wr.alloc o).grownBy w8 (Value.slice ta m tc).ownBlock) : CoRel w1 C keep (k + 1) v8 w8 := by
  have hon : Only (fun j => (Value.slice ta m tc).ownBlock = some j) wr w8 := ((Only.refl _ wr).alloc _).trans (Only.grown hg)
  refine ⟨?_, Only.widen R.only hon (fun j hj => (R.own.lt j hj).1)⟩
  rw [kept_succ, if_pos hk, f64s_snoc, List.length_append, ← hm]
  exact hown
theorem coRel_skip {w1 wr : World} {C : List Nat} {keep : List Bool} {k : Nat} {v : Value} (R : CoRel w1 C keep k v wr) (hk : ¬ keep.getD k false = true) : CoRel w1 C keep (k + 1) v wr := by
  have e : kept C keep (k + 1) = kept C keep k := by rw [kept_succ, if_neg hk, List.append_nil]
  exact ⟨by rw [e]; exact R.own, R.only⟩
theorem coRel_end {w1 wr : World} {C : List Nat} {keep : List Bool} {k : Nat} {v : Value} (R : CoRel w1 C keep k v wr) (hk : k ≤ C.length) (he : k = C.length ∨ keep.length ≤ k) : CoRel w1 C keep C.length v wr := by
  rcases he with rfl | he
  · exact R
  · have e : kept C keep C.length = kept C keep k := by unfold kept; rw [keptI_stop keep he hk]
    exact ⟨by rw [e]; exact R.own, R.only⟩
theorem bounds_src {w : World} {fa a' : Option Addr} {fc c' : Nat} {F C : List Nat} (hci : InCells w fa F) (hn1 : fa = none → fc = 0) (hn2 : ∀ a, fa = some a → ∃ b off, a = ⟨b, off, none⟩) (hC : C = cutBs F)
    (hac : a' = fa ∧ c' = fc ∨ a' = none ∧ c' = 0 ∧ C = []) : InCells w a' C ∧ SrcIs w (.slice a' C.length c') 1 C.length (f64s C) := by
  rcases hac with ⟨rfl, rfl⟩ | ⟨rfl, rfl, rfl⟩
  · subst hC
    exact ⟨hci.cut, hci.cut.src hn1 hn2⟩
  · exact ⟨fun i hi => by simp at hi, .inl ⟨rfl, rfl, rfl⟩⟩

/-- Where the buckets of a converted histogram lie, and what they hold. -/
def BkIn (bs l : List Nat) (qa : Option Addr) (w : World) : Prop := ∀ k, k < bs.length → ∃ g, qa = some ⟨g, 0, none⟩ ∧ w.cell? ⟨g, k * 6, none⟩ = some (.int .u64 (cumN (tally bs l) (k + 1))) ∧ w.cell? ⟨g, k * 6 + 1, none⟩ = some (.float .f64 (wd bs k))
theorem BkIn.mono {bs l : List Nat} {qa : Option Addr} {w w' : World} (h : BkIn bs l qa w) (ho : Only (fun _ => False) w w') : BkIn bs l qa w' := fun k hk => by
  obtain ⟨g, h1, h2, h3⟩ := h k hk
  exact ⟨g, h1, ho.cell h2 id, ho.cell h3 id⟩
theorem observe_at (bsl : Value) (la : Option Addr) (lc : Nat) (l : List Nat) (gs : Addr) (gc : Nat) (bs0 bs : List Nat) (w : World)
    (hg : w.cell? ⟨2, 0, none⟩ = some (.slice (some gs) 1 gc)) (hgs : w.cell? gs = some (.int .u8 255))
    (hb : SrcIs w bsl 1 bs0.length (f64s bs0)) (hlen : bs0.length ≤ 1048577) (hasc : Asc (effBs bs0)) (hinc : Incr (cutBs (effBs bs0))) (he : bs = cutBs (effBs bs0))
    (hc : InCells w la l) (hl : l.length ≤ 2097152) :
    Calls Tryz.prog 15 #[.agg #[bsl, .float .f64 0, .float .f64 0, .int .u32 0, .int .i64 0, .float .f64 0, .int .i64 0, .int .i64 0], .slice la l.length lc] w fun e w' => ∃ s qa qc b1 b2, e = .returned (.tuple #[.agg #[.int .u64 l.length, .float .f64 s, .slice qa bs.length qc, .int .i64 0, .bool false, .int .i32 0, .float .f64 0, .int .u64 0, .slice none 0 0, .slice none 0 0, .slice (some ⟨b1, 0, none⟩) 0 0, .slice (some ⟨b2, 0, none⟩) 0 0, .slice none 0 0], .bool true]) ∧
      SumTo l s ∧ BkIn bs l qa w' ∧ Only (fun _ => False) w w' := by
  subst he
  refine (histObserve_plain bsl 0 0 0 0 0 0 0 la lc l gs gc bs0 w hg hgs order_zero hb hlen hasc hinc hc hl).mono ?_
  rintro e w' ⟨r, rfl, hrec, hrow, hon⟩
  obtain ⟨hl2, hbk⟩ := told_cells hrec hrow
  have h1 : r.cnt = l.length := hrec.cnt
  have h2 : r.created = 0 := hrec.created
  refine ⟨r.sum, r.qa, r.qc, r.b1, r.b2, ?_, hrec.sum, hbk, hon⟩
  unfold shC
  rw [h1, h2, hl2]
theorem same_true {l : List Nat} {s r : Nat} (h : SumTo l s) (h' : SumTo l r) : (feq s r || (Fl.isNaN s && Fl.isNaN r)) = true := by
  rcases h.same h' with ⟨rfl, hn⟩ | ⟨h1, h2⟩
  · rw [(feq_iff s s).2 ⟨hn, hn, rfl⟩]; rfl
  · rw [h1, h2]; simp
theorem kept_end {C : List Nat} {keep : List Bool} {k : Nat} (hk : k ≤ C.length) (he : k = C.length ∨ keep.length ≤ k) : kept C keep k = kept C keep C.length := by
  rcases he with rfl | he
  · rfl
  · unfold kept; rw [keptI_stop keep he hk]
end Go.Proofs.YtebjclmbacmilaaGreatDoor
