/- The buckets of an observed histogram, all six cells of each. Conditions: as stated. The default bounds in order; two observed histograms of the same numbers and bounds are the same. Conditions: as stated. -/
import Derived.Test.YtebjclmbacmilaaGreatDoorxCo
import Derived.Test.YtebjclmbacmilaaGreatDoorxSg
namespace Go.Proofs.YtebjclmbacmilaaGreatDoor
open Go.RowKit

theorem told_bk {bs l : List Nat} {w : World} {b : Nat} {r : SR} (hR : Rec bs 0 r.asRec l) (ho : w.ownsRow b 43 6 r.q r.bks.length (bRow r.bks)) :
    r.bks.length = bs.length ∧ ∀ k, k < bs.length → ∃ g, r.qa = some ⟨g, 0, none⟩ ∧ BkAt w g k (cumN (tally bs l) (k + 1)) (wd bs k) := by
  have hl : r.bks.length = bs.length := by
    have h : r.asRec.bks.length = bs.length := by have := congrArg List.length hR.bks; simpa using this
    exact h
  refine ⟨hl, fun k hk => ?_⟩
  have hk' : k < r.bks.length := by omega
  obtain ⟨g, hg, hc⟩ := row_cells (cl := bCells r.bks[k]) ho hk' (Only.refl _ w) (fun j hj => flat_get bCells 6 (fun _ => rfl) r.bks k j hk' hj)
  have e := congrArg (fun q => q[k]?) hR.bks
  have e0 : (r.asRec).bks = r.bks := rfl
  simp only [e0, List.getElem?_map, List.getElem?_eq_getElem hk', Option.map_some, List.getElem?_range hk, Option.some.injEq, Prod.mk.injEq] at e
  refine ⟨g, hg, ?_, ?_, hc 2 _ rfl, hc 3 _ rfl, hc 4 _ rfl, hc 5 _ rfl⟩
  · rw [← e.1]; exact hc 0 _ rfl
  · rw [← e.2]; exact hc 1 _ rfl
/-- histObserve of a classic setup: all cells. -/
theorem observe_bk (bsl : Value) (la : Option Addr) (lc : Nat) (l : List Nat) (gs : Addr) (gc : Nat) (bs0 bs : List Nat) (w : World)
    (hg : w.cell? ⟨2, 0, none⟩ = some (.slice (some gs) 1 gc)) (hgs : w.cell? gs = some (.int .u8 255))
    (hb : SrcIs w bsl 1 bs0.length (f64s bs0)) (hlen : bs0.length ≤ 1048577) (hasc : Asc (effBs bs0)) (hinc : Incr (cutBs (effBs bs0))) (he : bs = cutBs (effBs bs0))
    (hc : InCells w la l) (hl : l.length ≤ 2097152) (hne : 0 < bs.length) :
    Calls Tryz.prog 15 #[.agg #[bsl, .float .f64 0, .float .f64 0, .int .u32 0, .int .i64 0, .float .f64 0, .int .i64 0, .int .i64 0], .slice la l.length lc] w fun e w' => ∃ s g qc b1 b2, e = .returned (.tuple #[.agg #[.int .u64 l.length, .float .f64 s, .slice (some ⟨g, 0, none⟩) bs.length qc, .int .i64 0, .bool false, .int .i32 0, .float .f64 0, .int .u64 0, .slice none 0 0, .slice none 0 0, .slice (some ⟨b1, 0, none⟩) 0 0, .slice (some ⟨b2, 0, none⟩) 0 0, .slice none 0 0], .bool true]) ∧
      SumTo l s ∧ (∀ k, k < bs.length → BkAt w' g k (cumN (tally bs l) (k + 1)) (wd bs k)) ∧ Only (fun _ => False) w w' := by
  subst he
  refine (histObserve_plain bsl 0 0 0 0 0 0 0 la lc l gs gc bs0 w hg hgs order_zero hb hlen hasc hinc hc hl).mono ?_
  rintro e w' ⟨r, rfl, hrec, hrow, hon⟩
  obtain ⟨hl2, hbk⟩ := told_bk hrec hrow
  have h1 : r.cnt = l.length := hrec.cnt
  have h2 : r.created = 0 := hrec.created
  obtain ⟨g, hqa, _⟩ := hbk 0 hne
  refine ⟨r.sum, g, r.qc, r.b1, r.b2, ?_, hrec.sum, fun k hk => ?_, hon⟩
  · unfold shC
    rw [h1, h2, hl2, hqa]
  · obtain ⟨g', hq', hB⟩ := hbk k hk
    rw [hqa] at hq'
    cases hq'
    exact hB
end Go.Proofs.YtebjclmbacmilaaGreatDoor

namespace Go.Proofs.YtebjclmbacmilaaGreatDoor
open Go.RowKit

theorem def_steps : ∀ i, i < 10 → fge (wd defBs i) (wd defBs (i + 1)) = false := by decide +kernel
theorem def_asc : Asc defBs := fun i hi => def_steps i (by have : defBs.length = 11 := rfl; omega)
theorem def_nan : ∀ b ∈ defBs, Fl.isNaN b = false := by decide +kernel
theorem def_cut : cutBs defBs = defBs := by decide +kernel
theorem sameObs (l bs : List Nat) (s1 s2 g1 g2 q1 q2 b1 b2 b3 b4 : Nat) (w : World) (h1 : SumTo l s1) (h2 : SumTo l s2) (k1 : ∀ k, k < bs.length → BkAt w g1 k (cumN (tally bs l) (k + 1)) (wd bs k)) (k2 : ∀ k, k < bs.length → BkAt w g2 k (cumN (tally bs l) (k + 1)) (wd bs k)) (hn : bs.length ≤ 1048578) :
    Calls Tryz.prog 21 #[.agg #[.int .u64 l.length, .float .f64 s1, .slice (some ⟨g1, 0, none⟩) bs.length q1, .int .i64 0, .bool false, .int .i32 0, .float .f64 0, .int .u64 0, .slice none 0 0, .slice none 0 0, .slice (some ⟨b1, 0, none⟩) 0 0, .slice (some ⟨b2, 0, none⟩) 0 0, .slice none 0 0],
      .agg #[.int .u64 l.length, .float .f64 s2, .slice (some ⟨g2, 0, none⟩) bs.length q2, .int .i64 0, .bool false, .int .i32 0, .float .f64 0, .int .u64 0, .slice none 0 0, .slice none 0 0, .slice (some ⟨b3, 0, none⟩) 0 0, .slice (some ⟨b4, 0, none⟩) 0 0, .slice none 0 0]] w fun e w' => e = .returned (.bool true) ∧ Only (fun _ => False) w w' :=
  sameHist_any l.length 0 s1 s2 g1 g2 bs.length q1 q2 b1 b2 b3 b4 w (same_true h1 h2) hn (fun k hk => ⟨_, _, k1 k hk, k2 k hk⟩)
theorem def_incr : Incr (cutBs (effBs [])) := by
  show Incr (cutBs defBs)
  exact incr_cut (incr_of_asc def_nan def_asc)
end Go.Proofs.YtebjclmbacmilaaGreatDoor
