/- Plain laws of the sum of two lists of whole numbers: the counts and the sums add up. Conditions: at most 2^21 whole numbers below 2^30. -/
import Derived.Test.YtebjclmbacmilaaGreatDoorFt
import Derived.Test.YtebjclmbacmilaaGreatDoorPc
namespace Go.Proofs.YtebjclmbacmilaaGreatDoor
open Go.RowKit Ieee Fl

def wsum (zs : List Int) : Int := (zs.map fun z => z.tmod 1073741824).sum
theorem wholeOf_enc (z : Int) : wholeOf z = enc (z.tmod 1073741824) := rfl
theorem tmod_small (z : Int) : (z.tmod 1073741824).natAbs ≤ 1073741824 := by
  have h1 := Int.tmod_lt_of_pos z (show (0 : Int) < 1073741824 by decide)
  have h2 := Int.tmod_lt_of_pos (-z) (show (0 : Int) < 1073741824 by decide)
  rw [Int.neg_tmod] at h2
  omega
theorem wsum_small (zs : List Int) : (wsum zs).natAbs ≤ zs.length * 1073741824 := by
  induction zs with
  | nil => decide
  | cons z r ih =>
    have := tmod_small z
    have e : wsum (z :: r) = z.tmod 1073741824 + wsum r := by unfold wsum; rw [List.map_cons, List.sum_cons]
    rw [e, List.length_cons]
    omega
theorem fold_whole (zs : List Int) : ∀ acc : Int, acc.natAbs + zs.length * 1073741824 < 2 ^ 53 →
    (whole zs).foldl (fun a v => a.bind fun x => double.add x v) (some (enc acc)) = some (enc (acc + wsum zs)) := by
  induction zs with
  | nil => intro acc _; show some (enc acc) = some (enc (acc + 0)); rw [Int.add_zero]
  | cons z r ih =>
    intro acc h
    rw [List.length_cons] at h
    have ht := tmod_small z
    have e : wsum (z :: r) = z.tmod 1073741824 + wsum r := by unfold wsum; rw [List.map_cons, List.sum_cons]
    have ha : double.add (enc acc) (wholeOf z) = some (enc (acc + z.tmod 1073741824)) := by
      rw [wholeOf_enc]
      exact add_reads (enc_reads _ (by omega)) (enc_reads _ (by omega))
    show (whole r).foldl _ (double.add (enc acc) (wholeOf z)) = _
    rw [ha, ih _ (by omega), e, Int.add_assoc]
theorem fsum_whole (zs : List Int) (h : zs.length ≤ 2097152) : fsum (whole zs) = some (enc (wsum zs)) := by
  have h0 : enc 0 = 0 := by decide +kernel
  have := fold_whole zs 0 (by simp; omega)
  rw [h0, Int.zero_add] at this
  exact this
theorem SumTo.whole {zs : List Int} {s : Nat} (hl : zs.length ≤ 2097152) (h : SumTo (whole zs) s) : s = enc (wsum zs) := by
  have hf := fsum_whole zs hl
  rcases h with h | ⟨h, _⟩
  · rw [hf] at h; exact (Option.some.inj h).symm
  · rw [hf] at h; cases h
theorem whole_append (xs ys : List Int) : whole (xs ++ ys) = whole xs ++ whole ys := List.map_append
theorem wsum_append (xs ys : List Int) : wsum (xs ++ ys) = wsum xs + wsum ys := by unfold wsum; rw [List.map_append, List.sum_append]
theorem whole_len (zs : List Int) : (whole zs).length = zs.length := List.length_map _
/-- The sums add up. -/
theorem sums_add {xs ys : List Int} {a b c r : Nat} (hx : xs.length ≤ 1048576) (hy : ys.length ≤ 1048576) (ha : SumTo (whole xs) a) (hb : SumTo (whole ys) b) (hc : SumTo (whole xs ++ whole ys) c) (hr : AddTo a b r) : c = r ∧ isNaN c = false := by
  have hl : (xs ++ ys).length ≤ 2097152 := by rw [List.length_append]; omega
  have h1 := SumTo.whole (by omega) ha
  have h2 := SumTo.whole (by omega) hb
  rw [← whole_append] at hc
  have h3 := SumTo.whole hl hc
  have hn := (fsum_ok _ _ (fsum_whole (xs ++ ys) hl)).2.2
  rw [← h3] at hn
  have hadd : double.add a b = some c := by
    rw [h1, h2, h3, wsum_append]
    have := wsum_small xs
    have := wsum_small ys
    exact add_reads (enc_reads _ (by omega)) (enc_reads _ (by omega))
  rcases hr with hr | ⟨hr, _⟩
  · rw [hadd] at hr
    exact ⟨Option.some.inj hr, hn⟩
  · rw [hadd] at hr; cases hr
theorem sums_exact {xs ys : List Int} {a b c : Nat} (hx : xs.length ≤ 1048576) (hy : ys.length ≤ 1048576) (ha : SumTo (whole xs) a) (hb : SumTo (whole ys) b) (hc : SumTo (whole xs ++ whole ys) c) : double.add a b = some c ∧ isNaN c = false := by
  have hl : (xs ++ ys).length ≤ 2097152 := by rw [List.length_append]; omega
  have h1 := SumTo.whole (by omega) ha
  have h2 := SumTo.whole (by omega) hb
  rw [← whole_append] at hc
  have h3 := SumTo.whole hl hc
  have hn := (fsum_ok _ _ (fsum_whole (xs ++ ys) hl)).2.2
  rw [← h3] at hn
  refine ⟨?_, hn⟩
  rw [h1, h2, h3, wsum_append]
  have := wsum_small xs
  have := wsum_small ys
  exact add_reads (enc_reads _ (by omega)) (enc_reads _ (by omega))
/-- The counts add up. -/
theorem cum_append (bs l m : List Nat) {k : Nat} (hk : k ≤ bs.length) : cumN (tally bs (l ++ m)) k = cumN (tally bs l) k + cumN (tally bs m) k := by
  unfold cumN
  rw [cum_tally _ _ _ hk, cum_tally _ _ _ hk, cum_tally _ _ _ hk, List.countP_append]
theorem cum_small (bs l : List Nat) {k : Nat} (hk : k ≤ bs.length) : cumN (tally bs l) k ≤ l.length := by
  unfold cumN
  rw [cum_tally _ _ _ hk]
  exact List.countP_le_length
end Go.Proofs.YtebjclmbacmilaaGreatDoor
