/- HistFits: any numbers made increasing bounds. Conditions: as stated. HistWhole: whole numbers as floats. Conditions: as stated. -/
import Derived.Test.YtebjclmbacmilaaGreatDoorRg
import Derived.Test.YtebjclmbacmilaaGreatDoorEx
import Derived.Laws.Cover2
namespace Go.Proofs.YtebjclmbacmilaaGreatDoor
open Go.RowKit

def fitOk (o : List Nat) (x : Nat) : Bool := !Fl.isNaN x && (o.length == 0 || fgt x (wd o (o.length - 1)))
def fitStep (o : List Nat) (x : Nat) : List Nat := if fitOk o x = true then o ++ [x] else o
def fits (l : List Nat) : List Nat := l.foldl fitStep []

structure FitInv (o : List Nat) (k : Nat) : Prop where
  len : o.length ≤ k
  nan : ∀ b ∈ o, Fl.isNaN b = false
  asc : Asc o
theorem fitStep_inv {o : List Nat} {k x : Nat} (h : FitInv o k) : FitInv (fitStep o x) (k + 1) := by
  unfold fitStep
  split
  · rename_i hx
    simp only [fitOk, Bool.and_eq_true, Bool.not_eq_true', Bool.or_eq_true, beq_iff_eq] at hx
    refine ⟨by have := h.len; simp; omega, fun b hb => ?_, fun i hi => ?_⟩
    · rcases List.mem_append.1 hb with hb | hb
      · exact h.nan b hb
      · rw [List.mem_singleton.1 hb]; exact hx.1
    · simp only [List.length_append, List.length_cons, List.length_nil] at hi
      by_cases hlt : i + 1 < o.length
      · rw [wd_app_lt (by omega), wd_app_lt hlt]; exact h.asc i hlt
      · have e : i + 1 = o.length := by omega
        have hg := hx.2.resolve_left (by omega)
        rw [show o.length - 1 = i by omega] at hg
        rw [e, wd_app_lt (by omega), wd_app_eq]
        obtain ⟨a, b, c⟩ := (fgt_iff _ _).1 hg
        cases hh : fge (wd o i) x with
        | false => rfl
        | true => have := ((fge_iff _ _).1 hh).2.2; omega
  · exact ⟨by have := h.len; omega, h.nan, h.asc⟩
theorem fits_inv (l : List Nat) : FitInv (fits l) l.length := by
  have key : ∀ (l o : List Nat) (k : Nat), FitInv o k → FitInv (l.foldl fitStep o) (k + l.length) := by
    intro l
    induction l with
    | nil => intro o k h; exact h
    | cons x r ih =>
      intro o k h
      have := ih _ _ (fitStep_inv (x := x) h)
      rw [show k + (x :: r).length = k + 1 + r.length by simp; omega]
      exact this
  have := key l [] 0 ⟨Nat.le_refl _, (fun b hb => by cases hb), (fun i hi => by simp at hi)⟩
  rwa [Nat.zero_add] at this
theorem fits_snoc (l : List Nat) (k : Nat) (hk : k < l.length) : fits (l.take (k + 1)) = fitStep (fits (l.take k)) (wd l k) := by
  unfold fits
  rw [List.take_succ_eq_append_getElem hk, List.foldl_append]
  simp only [List.foldl_cons, List.foldl_nil]
  unfold wd
  rw [List.getD_eq_getElem?_getD, List.getElem?_eq_getElem hk]
  rfl

theorem eq_self {x : Nat} (hx : Fl.isNaN x = false) : (FloatKind.f64.format.order x x == some Ordering.eq) = true := (feq_iff x x).2 ⟨hx, hx, rfl⟩
theorem eq_nan {x : Nat} (hx : Fl.isNaN x = true) : (FloatKind.f64.format.order x x == some Ordering.eq) = false := by
  rw [ord_eq, hx]; rfl

theorem row_f64s {w : World} {B n : Nat} {ta : Option Addr} {tc : Nat} {o : List Nat} (h : w.ownsRow B 25 1 (.slice ta n tc) o.length (f64s o)) (h0 : 0 < o.length) : ∃ g, ta = some ⟨g, 0, none⟩ ∧ ∀ i, i < o.length → w.cell? ⟨g, i, none⟩ = some (.float .f64 (wd o i)) := by
  have hla : ∃ g, ta = some ⟨g, 0, none⟩ := by
    rcases h.2 with ⟨_, h0⟩ | ⟨g, cap, cur, hv, _⟩
    · omega
    · simp only [Value.slice.injEq] at hv; exact ⟨g, hv.1⟩
  obtain ⟨g, rfl⟩ := hla
  refine ⟨g, rfl, fun i hi => ?_⟩
  have hg : (f64s o)[i]? = some (.float .f64 (wd o i)) := by have := getD_f64s (l := o) (x := []) hi; rwa [List.append_nil] at this
  have hn : n = o.length := by
    rcases h.2 with ⟨hv, _⟩ | ⟨_, _, _, hv, _⟩
    · simp at hv
    · simp only [Value.slice.injEq] at hv; exact hv.2.1
  subst hn
  have hc := h.cells (g := g) rfl _ _ hg
  rw [show (⟨g, 0, none⟩ : Addr).add i = ⟨g, i, none⟩ by unfold Addr.add; split <;> simp_all] at hc
  exact hc

/-- Between two rounds. -/
structure FRel (w : World) (bs : List Nat) (k : Nat) (v : Value) (wr : World) : Prop where
  own : wr.ownsRow w.heap.size 25 1 v (fits (bs.take k)).length (f64s (fits (bs.take k)))
  only : Only (fun _ => False) w wr

set_option maxRecDepth 100000 in
set_option maxHeartbeats 3200000 in
theorem histFits_plain (ba : Option Addr) (bc : Nat) (bs : List Nat) (w : World) (hc : InCells w ba bs) (hlen : bs.length ≤ 1048577) :
    Calls Tryz.prog 13 #[.slice ba bs.length bc] w fun e w' => ∃ v, e = .returned v ∧ w'.ownsRow w.heap.size 25 1 v (fits bs).length (f64s (fits bs)) ∧ Only (fun _ => False) w w' := by
  obtain ⟨i25, hi, hz0, hz1, hz2⟩ := info_parts info25
  have hlen' : (bs.length : Int) ≤ 1048577 := by omega
  go_enter Tryz.func13, Tryz.ntmps13
  go_wp2_with fail
  go_loopw [3, 4] (fun v i wr => ∃ (k : Nat), k ≤ bs.length ∧ i = .int .i64 k ∧ FRel w bs k v wr) (fun _ i _ => bs.length - (intOf i).toNat)
  case atStart => exact ⟨0, Nat.zero_le _, rfl, ⟨World.ownsRow_nil _ _ _ _, Only.refl _ _⟩⟩
  case round =>
    obtain ⟨k, hk, rfl, hR⟩ := hrel
    obtain ⟨ta, tc, rfl⟩ := ownsRow_slice hR.own
    have HR := Lib.hid hR
    clear hR
    by_cases hkn : k < bs.length
    · have hk0 : (0 : Int) ≤ (k : Int) := by omega
      have hk1 : (k : Int) < (bs.length : Int) := by omega
      obtain ⟨b, off, rfl, hcell⟩ := hc k hkn
      have hx : wr.cell? ⟨b, off + k, none⟩ = some (.float .f64 (wd bs k)) := HR.out.only.cell hcell id
      have HSN := Lib.hid (fits_snoc bs k hkn)
      clear hcell
      cases hN : Fl.isNaN (wd bs k) with
      | true =>
        have e1 := eq_nan hN
        have HNX : Hid (fits (bs.take (k + 1)) = fits (bs.take k)) := Lib.hid (by rw [HSN.out]; unfold fitStep fitOk; rw [hN]; rfl)
        clear hN hk
        go_wp2_with fail
        go_quiet (fail)
        go_wp2_with fail
        go_roundw
        case rel => exact ⟨k + 1, hkn, by go_num, ⟨by rw [HNX.out]; exact HR.out.own, HR.out.only.drewN _⟩⟩
        case measure => simp [intOf]; omega
      | false =>
        have e1 := eq_self hN
        have HOWN := HR.out.own
        have HON := Lib.hid HR.out.only
        have hinv := fits_inv (bs.take k)
        obtain ⟨o, ho⟩ : ∃ o, o = fits (bs.take k) := ⟨_, rfl⟩
        rw [← ho] at HOWN HSN hinv ⊢
        have hol : o.length ≤ 1048577 := by have := hinv.len; rw [List.length_take] at this; omega
        clear HR hk ho hinv
        rcases Nat.eq_zero_or_pos o.length with h0 | h0
        · have ho : o = [] := List.length_eq_zero_iff.1 h0
          subst ho
          have HSN2 : Hid (fits (bs.take (k + 1)) = [] ++ [wd bs k]) := Lib.hid (by rw [HSN.out]; unfold fitStep fitOk; rw [hN]; rfl)
          have HOWN : Hid (wr.ownsRow w.heap.size 25 1 (.slice ta 0 tc) 0 (f64s [])) := Lib.hid HOWN
          clear h0 hol hN HSN
          go_wp2_with fail
          go_quiet (fail)
          have HQ : (wr.drewN nq).ownsRow w.heap.size 25 1 (.slice ta 0 tc) 0 (f64s ([] : List Nat)) := HOWN.out
          have HOQ : Only (fun _ => False) w (wr.drewN nq) := HON.out.drewN nq
          go_wp2_with (at_builtin; go_must (refine wpList_append_own _ rfl _ _ 22 rfl w.heap.size 25 i25 _ 1 8 Tryz.underlying22 hi hz0 hz1 hz2 rfl (by decide) _ _ _ rfl (HQ.alloc _) ⟨(wr.drewN nq).heap.size, 0, none⟩ 1 1 [.float .f64 (wd bs k)] rfl rfl (cells_of (IsBlock.new (wr.drewN nq) [.float .f64 (wd bs k)] 25)) (one_one _ rfl) ?c3 ?c4 ?c5 ?_))
          case c3 => unfold maxLen; omega
          case c4 => omega
          case c5 => have := HOQ.size; rw [World.size_alloc]; omega
          intro v8 w8 hown8 hgr8 _
          have hrowk : ∀ j, (Value.slice ta 0 tc).ownBlock = some j → w.heap.size ≤ j := fun j hj => (HQ.lt j hj).1
          have hon8 : Only (fun j => (Value.slice ta 0 tc).ownBlock = some j) (wr.drewN nq) w8 := ((Only.refl _ _).alloc _).trans (Only.grown hgr8)
          have HNX : Hid (FRel w bs (k + 1) v8 w8) := Lib.hid ⟨by
            rw [HSN2.out]
            have e1 : f64s (([] : List Nat) ++ [wd bs k]) = f64s ([] : List Nat) ++ [.float .f64 (wd bs k)] := by unfold f64s; rw [List.map_append]; rfl
            have e2 : (([] : List Nat) ++ [wd bs k]).length = 0 + 1 := by first | rfl | (rw [List.length_append, HM.out]; rfl)
            rw [e1, e2]; exact hown8, Only.widen HOQ hon8 (fun j hj => hrowk j hj)⟩
          clear hown8 hgr8 hrowk hon8 HQ HOQ
          go_wp2_with fail
          go_roundw
          case rel => exact ⟨k + 1, hkn, by go_num, HNX.out⟩
          case measure => simp [intOf]; omega
        · obtain ⟨g, rfl, hgc⟩ := row_f64s HOWN h0
          obtain ⟨m, hm⟩ : ∃ m, o.length = m + 1 := ⟨o.length - 1, by omega⟩
          have hlast := hgc m (by omega)
          rw [hm] at HOWN hol ⊢
          have hje : (((m : Int) + 1) == 0) = false := by rw [beq_eq_false_iff_ne]; omega
          have hm0 : (0 : Int) ≤ (m : Int) := by omega
          have hm1 : (m : Int) < (m : Int) + 1 := by omega
          have HM := Lib.hid hm
          have HOWN := Lib.hid HOWN
          clear hgc h0
          cases hG : fgt (wd bs k) (wd o m) with
          | false =>
            have e2 : (FloatKind.f64.format.order (wd bs k) (wd o m) == some .gt) = false := hG
            have HSN2 : Hid (fits (bs.take (k + 1)) = o) := Lib.hid (by rw [HSN.out]; unfold fitStep fitOk; rw [hN, HM.out]; simp [hG])
            clear hG hN hm HSN
            go_wp2_with fail
            go_quiet (fail)
            go_wp2_with fail
            go_roundw
            case rel => exact ⟨k + 1, hkn, by go_num, ⟨by rw [HSN2.out, HM.out]; exact HOWN.out, HON.out.drewN _⟩⟩
            case measure => simp [intOf]; omega
          | true =>
            have e2 : (FloatKind.f64.format.order (wd bs k) (wd o m) == some .gt) = true := hG
            have HSN2 : Hid (fits (bs.take (k + 1)) = o ++ [wd bs k]) := Lib.hid (by rw [HSN.out]; unfold fitStep fitOk; rw [hN, HM.out]; simp [hG])
            clear hG hN hm HSN
            go_wp2_with fail
            go_quiet (fail)
            have HQ : (wr.drewN nq).ownsRow w.heap.size 25 1 (.slice (some ⟨g, 0, none⟩) (m + 1) tc) (m + 1) (f64s o) := HOWN.out
            have HOQ : Only (fun _ => False) w (wr.drewN nq) := HON.out.drewN nq
            go_wp2_with (at_builtin; go_must (refine wpList_append_own _ rfl _ _ 22 rfl w.heap.size 25 i25 _ 1 8 Tryz.underlying22 hi hz0 hz1 hz2 rfl (by decide) _ _ _ rfl (HQ.alloc _) ⟨(wr.drewN nq).heap.size, 0, none⟩ 1 1 [.float .f64 (wd bs k)] rfl rfl (cells_of (IsBlock.new (wr.drewN nq) [.float .f64 (wd bs k)] 25)) (one_one _ rfl) ?c3 ?c4 ?c5 ?_))
            case c3 => unfold maxLen; omega
            case c4 => omega
            case c5 => have := HOQ.size; rw [World.size_alloc]; omega
            intro v8 w8 hown8 hgr8 _
            have hrowk : ∀ j, (Value.slice (some ⟨g, 0, none⟩) (m + 1) tc).ownBlock = some j → w.heap.size ≤ j := fun j hj => (HQ.lt j hj).1
            have hon8 : Only (fun j => (Value.slice (some ⟨g, 0, none⟩) (m + 1) tc).ownBlock = some j) (wr.drewN nq) w8 := ((Only.refl _ _).alloc _).trans (Only.grown hgr8)
            have HNX : Hid (FRel w bs (k + 1) v8 w8) := Lib.hid ⟨by
              rw [HSN2.out]
              have e1 : f64s (o ++ [wd bs k]) = f64s o ++ [.float .f64 (wd bs k)] := by unfold f64s; rw [List.map_append]; rfl
              have e2 : (o ++ [wd bs k]).length = (m + 1) + 1 := by first | rfl | (rw [List.length_append, HM.out]; rfl)
              rw [e1, e2]; exact hown8, Only.widen HOQ hon8 (fun j hj => hrowk j hj)⟩
            clear hown8 hgr8 hrowk hon8 HQ HOQ
            go_wp2_with fail
            go_roundw
            case rel => exact ⟨k + 1, hkn, by go_num, HNX.out⟩
            case measure => simp [intOf]; omega
    · have hke : k = bs.length := by omega
      subst hke
      have hk1 : ¬ (bs.length : Int) < (bs.length : Int) := by omega
      have HF : Hid (wr.ownsRow w.heap.size 25 1 (.slice ta (fits bs).length tc) (fits bs).length (f64s (fits bs)) ∧ Only (fun _ => False) w wr) := Lib.hid ⟨by have := HR.out.own; rw [List.take_of_length_le (Nat.le_refl _)] at this; exact this, HR.out.only⟩
      clear hkn hk HR
      go_wp2_with fail
      go_ret
      exact ⟨_, rfl, HF.out⟩
end Go.Proofs.YtebjclmbacmilaaGreatDoor

namespace Go.Proofs.YtebjclmbacmilaaGreatDoor
open Go.RowKit

/-- The cells of a slice of ints that came in. -/
def InInts (w : World) (ba : Option Addr) (zs : List Int) : Prop := ∀ i, i < zs.length → ∃ b off, ba = some ⟨b, off, none⟩ ∧ w.cell? ⟨b, off + i, none⟩ = some (.int .i64 (zs.getD i 0)) ∧ -9223372036854775808 ≤ zs.getD i 0 ∧ zs.getD i 0 ≤ 9223372036854775807
def wholeOf (z : Int) : Nat := floatOfInt .f64 (z.tmod 1073741824)
def whole (zs : List Int) : List Nat := zs.map wholeOf

structure WRel (w : World) (zs : List Int) (k : Nat) (v : Value) (wr : World) : Prop where
  own : wr.ownsRow w.heap.size 25 1 v k (f64s (whole (zs.take k)))
  only : Only (fun _ => False) w wr

set_option maxRecDepth 100000 in
set_option maxHeartbeats 3200000 in
theorem histWhole_plain (ba : Option Addr) (bc : Nat) (zs : List Int) (w : World) (hc : InInts w ba zs) (hlen : zs.length ≤ 1048576) :
    Calls Tryz.prog 14 #[.slice ba zs.length bc] w fun e w' => ∃ v, e = .returned v ∧ w'.ownsRow w.heap.size 25 1 v zs.length (f64s (whole zs)) ∧ Only (fun _ => False) w w' := by
  obtain ⟨i25, hi, hz0, hz1, hz2⟩ := info_parts info25
  have hlen' : (zs.length : Int) ≤ 1048576 := by omega
  go_enter Tryz.func14, Tryz.ntmps14
  go_wp2_with fail
  go_loopw [3, 4] (fun v i wr => ∃ (k : Nat), k ≤ zs.length ∧ i = .int .i64 k ∧ WRel w zs k v wr) (fun _ i _ => zs.length - (intOf i).toNat)
  case atStart => exact ⟨0, Nat.zero_le _, rfl, ⟨World.ownsRow_nil _ _ _ _, Only.refl _ _⟩⟩
  case round =>
    obtain ⟨k, hk, rfl, hR⟩ := hrel
    obtain ⟨ta, tc, rfl⟩ := ownsRow_slice hR.own
    have HR := Lib.hid hR
    clear hR
    by_cases hkn : k < zs.length
    · have hk0 : (0 : Int) ≤ (k : Int) := by omega
      have hk1 : (k : Int) < (zs.length : Int) := by omega
      have hk2 : (k : Int) < 1048576 := by omega
      obtain ⟨b, off, rfl, hcell, hlo, hhi⟩ := hc k hkn
      obtain ⟨z, hz⟩ : ∃ z, z = zs.getD k 0 := ⟨_, rfl⟩
      rw [← hz] at hcell hlo hhi
      have hx : wr.cell? ⟨b, off + k, none⟩ = some (.int .i64 z) := HR.out.only.cell hcell id
      have HZ := Lib.hid hz
      have hr1 : -1073741824 < z.tmod 1073741824 ∧ z.tmod 1073741824 < 1073741824 := by
        have h1 := Int.tmod_lt_of_pos z (show (0 : Int) < 1073741824 by decide)
        have h2 := Int.tmod_lt_of_pos (-z) (show (0 : Int) < 1073741824 by decide)
        rw [Int.neg_tmod] at h2
        omega
      have HOWN := Lib.hid HR.out.own
      have HON := Lib.hid HR.out.only
      clear hcell hz hk
      go_wp2_with (at_builtin; go_must (refine wpList_append_own _ rfl _ _ 22 rfl w.heap.size 25 i25 _ 1 8 Tryz.underlying22 hi hz0 hz1 hz2 rfl (by decide) _ _ _ rfl (HOWN.out.alloc _) ⟨wr.heap.size, 0, none⟩ 1 1 [.float .f64 (wholeOf z)] rfl rfl (cells_of (IsBlock.new wr [.float .f64 (wholeOf z)] 25)) (one_one _ rfl) ?c3 ?c4 ?c5 ?_))
      case c3 => unfold maxLen; omega
      case c4 => omega
      case c5 => have := HON.out.size; rw [World.size_alloc]; omega
      intro v8 w8 hown8 hgr8 _
      have hrowk : ∀ j, (Value.slice ta k tc).ownBlock = some j → w.heap.size ≤ j := fun j hj => (HOWN.out.lt j hj).1
      have hon8 : Only (fun j => (Value.slice ta k tc).ownBlock = some j) wr w8 := ((Only.refl _ _).alloc _).trans (Only.grown hgr8)
      have HNX : Hid (WRel w zs (k + 1) v8 w8) := Lib.hid ⟨by
        have e0 : z = zs[k] := by rw [HZ.out, List.getD_eq_getElem?_getD, List.getElem?_eq_getElem hkn]; rfl
        have e1 : f64s (whole (zs.take (k + 1))) = f64s (whole (zs.take k)) ++ [.float .f64 (wholeOf z)] := by
          rw [List.take_succ_eq_append_getElem hkn, e0]; unfold whole f64s; rw [List.map_append, List.map_append]; rfl
        rw [e1]; exact hown8, Only.widen HON.out hon8 (fun j hj => hrowk j hj)⟩
      clear hown8 hgr8 hrowk hon8
      go_wp2_with fail
      go_roundw
      case rel => exact ⟨k + 1, hkn, by go_num, HNX.out⟩
      case measure => simp [intOf]; omega
    · have hke : k = zs.length := by omega
      subst hke
      have hk1 : ¬ (zs.length : Int) < (zs.length : Int) := by omega
      have HF : Hid (wr.ownsRow w.heap.size 25 1 (.slice ta zs.length tc) zs.length (f64s (whole zs)) ∧ Only (fun _ => False) w wr) := Lib.hid ⟨by have := HR.out.own; rw [List.take_of_length_le (Nat.le_refl _)] at this; exact this, HR.out.only⟩
      clear hkn hk HR
      go_wp2_with fail
      go_ret
      exact ⟨_, rfl, HF.out⟩
end Go.Proofs.YtebjclmbacmilaaGreatDoor
