/- HistRun of the thin package where the bounds are out of order: it makes no histogram. Conditions: as stated. -/
import Derived.Test.YtebjclmbacmilaaGreatDoorHr
import Derived.Test.YtebjclmbacmilaaGreatDoorNq
namespace Go.Proofs.YtebjclmbacmilaaGreatDoor
open Go.RowKit

set_option maxRecDepth 100000 in
set_option maxHeartbeats 1600000 in
theorem histRun_no (ba : Option Addr) (bn bc : Nat) (fac zt : Nat) (maxB mr : Int) (maxZero : Nat) (mex ttl t0 : Int) (sl : Value) (gs : Addr) (gc : Nat) (bs : List Nat) (w : World)
    (hg : w.cell? ⟨2, 0, none⟩ = some (.slice (some gs) 1 gc)) (hgs : w.cell? gs = some (.int .u8 255))
    (hf : (FloatKind.f64.format.order fac 4607182418800017408 == some .lt || FloatKind.f64.format.order fac 4607182418800017408 == some .eq) = true)
    (hb : SrcIs w (.slice ba bn bc) 1 bs.length (f64s bs)) (hlen : bs.length ≤ 1048577) (hasc : ¬ Asc (effBs bs)) :
    Calls Tryz.prog 28 #[.agg #[.slice ba bn bc, .float .f64 fac, .float .f64 zt, .int .u32 maxB, .int .i64 mr, .float .f64 maxZero, .int .i64 mex, .int .i64 ttl], .int .i64 t0, sl] w fun e w' => e = .returned (.tuple #[.slice none 0 0, .slice none 0 0, .bool false]) ∧ Only (fun _ => False) w w' := by
  obtain ⟨i0, hi, hz0, hz1, hz2⟩ := info_parts info25
  have hmf : ∀ (fn : Fn) (first cap : Array Value) (w : World), (Instr.makeFunc fn first cap).run Tryz.prog w = .ok (.func fn first cap) w := fun _ _ _ _ => rfl
  have hS2 : IsBlock ((w.alloc (.cells (sVals (.slice ba bn bc) fac zt maxB mr maxZero mex ttl).toArray 69)).alloc (.cells #[.int .i64 t0, .slice none 0 0] 162)) w.heap.size (sVals (.slice ba bn bc) fac zt maxB mr maxZero mex ttl) := (IsBlock.new w _ 69).alloc _
  have hC2 : IsBlock ((w.alloc (.cells (sVals (.slice ba bn bc) fac zt maxB mr maxZero mex ttl).toArray 69)).alloc (.cells #[.int .i64 t0, .slice none 0 0] 162)) (w.heap.size + 1) [.int .i64 t0, .slice none 0 0] := blk_new _ _ _ _ (World.size_alloc _ _).symm
  have hO2 : Only (fun _ => False) w ((w.alloc (.cells (sVals (.slice ba bn bc) fac zt maxB mr maxZero mex ttl).toArray 69)).alloc (.cells #[.int .i64 t0, .slice none 0 0] 162)) := ((Only.refl _ w).alloc _).alloc _
  have hZ2 : ((w.alloc (.cells (sVals (.slice ba bn bc) fac zt maxB mr maxZero mex ttl).toArray 69)).alloc (.cells #[.int .i64 t0, .slice none 0 0] 162)).heap.size = w.heap.size + 2 := by simp
  have hB2 : SrcIs ((w.alloc (.cells (sVals (.slice ba bn bc) fac zt maxB mr maxZero mex ttl).toArray 69)).alloc (.cells #[.int .i64 t0, .slice none 0 0] 162)) (.slice ba bn bc) 1 bs.length (f64s bs) := hb.mono (fun a v h => cell_past (cell_past h _) _)
  have HASC := Lib.hid hasc
  have HLEN := Lib.hid hlen
  have HG := Lib.hid hg
  have HGS := Lib.hid hgs
  have HF := Lib.hid hf
  clear hb hasc hlen hg hgs hf
  go_enter Tryz.func28, Tryz.ntmps28
  go_upto_region 2 with (go_at_call 50; refine (newClock_any _ _).mono ?_; rintro e w' ⟨rfl, rfl⟩)
  refine (?_ : ∀ w2, w2 = (w.alloc (.cells (sVals (.slice ba bn bc) fac zt maxB mr maxZero mex ttl).toArray 69)).alloc (.cells #[.int .i64 t0, .slice none 0 0] 162) → Code.wp _ _ _ _ w2) _ rfl
  intro w2 hw2
  rw [← hw2] at hS2 hC2 hO2 hZ2 hB2
  have HC2 := Lib.hid hC2
  have HO2 := Lib.hid hO2
  have HZ2 := Lib.hid hZ2
  have HB2 := Lib.hid hB2
  clear hw2 hC2 hO2 hZ2 hB2
  have hc8 := cells8 hS2
  have hz2lt : w.heap.size < w2.heap.size := by have := HZ2.out; omega
  go_cut [10] from 17 to 36 (fun v10 wx => ∃ (hb : Nat), v10 = .pointer (some ⟨hb, 0, none⟩) ∧ IsBlock wx hb [.nilIface] ∧ Only (fun _ => False) w wx)
  case first =>
    go_region_held3 (fun wx => wx.cell? ⟨w.heap.size, 0, none⟩ = some (.slice ba bn bc) ∧ wx.cell? ⟨w.heap.size, 1, none⟩ = some (.float .f64 fac) ∧ wx.cell? ⟨w.heap.size, 2, none⟩ = some (.float .f64 zt) ∧ wx.cell? ⟨w.heap.size, 3, none⟩ = some (.int .u32 maxB) ∧ wx.cell? ⟨w.heap.size, 4, none⟩ = some (.int .i64 mr) ∧ wx.cell? ⟨w.heap.size, 5, none⟩ = some (.float .f64 maxZero) ∧ wx.cell? ⟨w.heap.size, 6, none⟩ = some (.int .i64 mex) ∧ wx.cell? ⟨w.heap.size, 7, none⟩ = some (.int .i64 ttl))
      ((refine cells8 ?_; repeat (first | assumption | apply IsBlock.drew | apply IsBlock.alloc | (refine IsBlock.set_ne ?_ (Nat.ne_of_lt (by assumption)) _))))
      (first
        | (refine step_append_src _ (by rfl) _ _ _ (by rfl) _ 25 i0 _ 1 8 Tryz.underlying22 hi hz0 hz1 hz2 rfl (by omega) (.slice none 0 0) 0 [] (by rfl) (World.ownsRow_nil _ _ _ _) (.slice ba bn bc) bs.length (f64s bs) (by rfl) (SrcIs.mono HB2.out (fun _ _ h => (by first | exact h | exact cell_past h _))) (one_f64s bs) (by have := HLEN.out; unfold maxLen; omega) (by have := HLEN.out; omega) (Nat.le_refl _) ?_
           intro v3 w3 hown3 hgr3 hnil3
           rw [Nat.zero_add, List.nil_append] at hown3
           obtain ⟨ba3, bc3, rfl⟩ := ownsRow_slice hown3
           have hO23 := only_grown (a := w2) (by repeat (first | exact Only.refl _ _ | apply Only.drew | apply Only.alloc)) hgr3
           have hS3 := hO23.isBlock hS2 id
           have hC3 := hO23.isBlock HC2.out id
           have hO3 := HO2.out.trans hO23
           obtain ⟨spare, hcap3, hbs3, hba3, hlo3⟩ := bounds_fit hown3 (fun h => hnil3 h rfl)
           have HBS3 := Lib.hid hbs3
           have HBA3 := Lib.hid hba3
           have HLO3 := Lib.hid hlo3
           have HGR3 := Lib.hid hgr3.size
           have hz3lt : w.heap.size < w3.heap.size := by have := hO23.size; omega
           try have hh3 : IsBlock w3 w2.heap.size [.nilIface] := IsBlock.grown (IsBlock.new w2 [.nilIface] 114).drew hgr3 (fun e => (by cases e))
           clear hown3 hgr3 hnil3 hbs3 hba3 hlo3 hO23)
        | (go_at_call 51
           refine (doorHistogram_no (w.heap.size + 1) ba3 bs.length bc3 fac zt maxZero maxB mr mex ttl t0 gs gc _ (by first | exact hC3.cell rfl | exact (hC3.alloc _).cell rfl) (by first | exact hO3.cell HG.out id | exact (hO3.alloc _).cell HG.out id) (by first | exact hO3.cell HGS.out id | exact (hO3.alloc _).cell HGS.out id) HF.out (effBs bs) spare (effBs_len HLEN.out) hcap3 (by first | exact HBS3.out | exact HBS3.out.imp id (fun ⟨a, b, u, c, q⟩ => ⟨a, b, u, c, q.alloc _⟩)) HASC.out HBA3.out).mono ?_
           rintro e w4 ⟨rfl, hon4⟩
           have hO34 : Only (fun _ => False) w3 w4 := Only.trans (by first | exact Only.refl _ _ | exact (Only.refl _ _).alloc _) hon4
           have hO4 := hO3.trans hO34
           have hS4 := hO34.isBlock hS3 id
           try have hh4 := hO34.isBlock hh3 id
           try have hh4 : IsBlock w4 w3.heap.size [.nilIface] := hon4.isBlock (IsBlock.new w3 [.nilIface] 114) id
           try have hc4 := hh4.cell (i := 0) rfl
           try have hf4 := hh4.free 0
           clear hon4))
    · go_wp2_with fail
      go_meet
      exact ⟨w4.heap.size, rfl, blk_new _ _ _ _ rfl, hO4.alloc _⟩
    · go_wp2_with fail
      go_meet
      exact ⟨w3.heap.size, rfl, hh4.set 0 _, hO4.setCell (p := ⟨w3.heap.size, 0, none⟩) (.inr (by have := hO3.size; exact this)) _⟩
    · go_wp2_with fail
      go_meet
      exact ⟨w2.heap.size, rfl, hh4.set 0 _, hO4.setCell (p := ⟨w2.heap.size, 0, none⟩) (.inr (by have := HO2.out.size; exact this)) _⟩
  obtain ⟨hb, rfl, hB, hO⟩ := hcut
  have cv := hB.cell (i := 0) rfl
  have HFN := Lib.hid hO
  clear hc8 hS2 hz2lt HC2 HO2 HZ2 HB2 HG HGS hB hO
  go_wp2_with fail
  go_ret3
  exact ⟨rfl, HFN.out⟩
end Go.Proofs.YtebjclmbacmilaaGreatDoor
