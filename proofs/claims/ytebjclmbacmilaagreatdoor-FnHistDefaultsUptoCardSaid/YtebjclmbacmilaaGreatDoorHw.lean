/- histOf of the thin package for a written native histogram. Conditions: as stated. -/
import Derived.Test.YtebjclmbacmilaaGreatDoorxRf
import Derived.Deep.RegionHeld3
namespace Go.Proofs.YtebjclmbacmilaaGreatDoor
open Go.RowKit

def hNVals (cnt sum : Nat) (created : Int) (nat : Bool) (sch : Int) (zt zc : Nat) (rn rp dn dp : Value) : List Value :=
  [.int .u64 cnt, .float .f64 sum, .slice none 0 0, .int .i64 created, .bool nat, .int .i32 sch, .float .f64 zt, .int .u64 zc, rn, rp, dn, dp, .slice none 0 0]
theorem one_ints (l : List Int) : ∀ u ∈ ints64 l, u.oneCell' = true := by
  intro u hu
  obtain ⟨n, _, rfl⟩ := List.mem_map.1 hu
  rfl
theorem src_of_owns {w : World} {b e n : Nat} {v : Value} {xs : List Value} (h : w.ownsRow b e 1 v n xs) : SrcIs w v 1 n xs := by
  have hl := h.1
  rcases h.2 with ⟨rfl, h0⟩ | ⟨g, cap, cur, rfl, hb⟩
  · subst h0
    exact .inl ⟨rfl, rfl, List.length_eq_zero_iff.1 (by rw [hl])⟩
  · exact .inr ⟨_, _, rfl, hl, h.cells (g := g) rfl⟩
theorem only_pre {S : Nat → Prop} {a b c : World} (k : Only S b c) (h : Only S a b) : Only S a c := h.trans k
theorem only_set2 {w wx : World} (h : Only (fun _ => False) w wx) (i : Nat) (v : Value) : Only (fun _ => False) w (wx.setCell ⟨w.heap.size + 1, i, none⟩ v) := h.setCell (p := ⟨w.heap.size + 1, i, none⟩) (.inr (Nat.le_succ _)) v
/-- Between the statements of histOf. -/
structure HwRel (w : World) (vals : List Value) (wx : World) : Prop where
  hx : IsBlock wx (w.heap.size + 1) vals
  h0 : IsBlock wx w.heap.size (hNVals 0 0 0 false 0 0 0 (.slice none 0 0) (.slice none 0 0) (.slice none 0 0) (.slice none 0 0))
  only : Only (fun _ => False) w wx
  size : w.heap.size + 2 ≤ wx.heap.size
theorem HwRel.kept {w wx w' : World} {vals : List Value} (H : HwRel w vals wx) (ho : Only (fun _ => False) wx w') : HwRel w vals w' := ⟨ho.isBlock H.hx id, ho.isBlock H.h0 id, H.only.trans ho, Nat.le_trans H.size ho.size⟩
theorem HwRel.set {w wx : World} {vals : List Value} (H : HwRel w vals wx) (i : Nat) (v : Value) : HwRel w (vals.set i v) (wx.setCell ⟨w.heap.size + 1, i, none⟩ v) :=
  ⟨H.hx.set i v, H.h0.set_ne (a := ⟨w.heap.size + 1, i, none⟩) (by show w.heap.size ≠ w.heap.size + 1; omega) _, H.only.setCell (.inr (by show _ ≤ w.heap.size + 1; omega)) _, by rw [World.size_setCell]; exact H.size⟩
theorem HwRel.drew {w wx : World} {vals : List Value} (H : HwRel w vals wx) : HwRel w vals wx.drew := H.kept (Only.refl _ wx).drew

set_option maxRecDepth 100000 in
set_option maxHeartbeats 3200000 in
theorem histOf_nat (q : NQ) (A cnt sum zt zc : Nat) (created sch : Int) (na da pa ea : Option Addr × Nat) (tn tp : MS) (w : World) (D : NDone w A q cnt sum zt zc created sch (.slice na.1 tn.sp.length na.2) (.slice da.1 tn.ds.length da.2) (.slice pa.1 tp.sp.length pa.2) (.slice ea.1 tp.ds.length ea.2) tn tp)
    (hl : tn.sp.length ≤ 536870912 ∧ tn.ds.length ≤ 1073741824 ∧ tp.sp.length ≤ 536870912 ∧ tp.ds.length ≤ 1073741824) :
    Calls Tryz.prog 56 #[.pointer (some ⟨q.g, 0, none⟩)] w fun e w' => ∃ rn rp dn dp Ln Lp, e = .returned (.agg (hNVals cnt sum created true sch zt zc rn rp dn dp).toArray) ∧ w'.ownsRow (w.heap.size + 2) 213 2 rn Ln.length (runRow Ln) ∧ w'.ownsRow (w.heap.size + 2) 213 2 rp Lp.length (runRow Lp) ∧
      w'.ownsRow (w.heap.size + 2) 2 1 dn tn.ds.length (ints64 tn.ds) ∧ w'.ownsRow (w.heap.size + 2) 2 1 dp tp.ds.length (ints64 tp.ds) ∧ Ln.map (fun s => (s.o, s.l)) = tn.sp ∧ Lp.map (fun s => (s.o, s.l)) = tp.sp ∧ Only (fun _ => False) w w' := by
  obtain ⟨i2, hi, hz0, hz1, hz2⟩ := info_parts info2'
  have HD := Lib.hid (fun (wx : World) (ho : Only (fun _ => False) w wx) => D.mono ho (fun _ h => h.elim))
  have HL := Lib.hid hl
  obtain ⟨Ln, n1, n2, n3⟩ := D.neg.ex
  obtain ⟨Lp, m1, m2, m3⟩ := D.pos.ex
  have HN := Lib.hid (fun (wx : World) (ho : Only (fun _ => False) w wx) => And.intro (ho.ownsRow n1 (fun _ _ => id)) (fun s hs => (n3 s hs).kept ho id id id))
  have HP := Lib.hid (fun (wx : World) (ho : Only (fun _ => False) w wx) => And.intro (ho.ownsRow m1 (fun _ _ => id)) (fun s hs => (m3 s hs).kept ho id id id))
  have HLN : Hid (Ln.length ≤ 536870912 ∧ Lp.length ≤ 536870912) := Lib.hid ⟨by have h := congrArg List.length n2; rw [List.length_map] at h; omega, by have h := congrArg List.length m2; rw [List.length_map] at h; omega⟩
  have HMP := Lib.hid (And.intro n2 m2)
  have HNC := Lib.hid (fun (wx : World) (ho : Only (fun _ => False) w wx) => runs_any (.slice na.1 tn.sp.length na.2) A Ln wx (HN.out wx ho).1 (HN.out wx ho).2 HLN.out.1)
  have HPC := Lib.hid (fun (wx : World) (ho : Only (fun _ => False) w wx) => runs_any (.slice pa.1 tp.sp.length pa.2) A Lp wx (HP.out wx ho).1 (HP.out wx ho).2 HLN.out.2)
  clear HN HP
  clear n1 n2 n3 m1 m2 m3
  have g0 : w.cell? ⟨q.g, 0, none⟩ = some (.pointer (some ⟨q.pc, 0, none⟩)) := D.hg.cell rfl
  have g1 : w.cell? ⟨q.g, 1, none⟩ = some (.pointer (some ⟨q.ps, 0, none⟩)) := D.hg.cell rfl
  have p0 : w.cell? ⟨q.pc, 0, none⟩ = some (.int .u64 cnt) := D.hc.cell rfl
  have p1 : w.cell? ⟨q.ps, 0, none⟩ = some (.float .f64 sum) := D.hs.cell rfl
  have hgl := D.hg.lt
  clear D hl
  go_enter Tryz.func56, Tryz.ntmps56
  go_wp2_with fail
  have k0 := cell_past g0 (Obj.cells (hVals 0 0 (.slice none 0 0) 0).toArray 92)
  have k1 := cell_past g1 (Obj.cells (hVals 0 0 (.slice none 0 0) 0).toArray 92)
  have k2 := cell_past p0 (Obj.cells (hVals 0 0 (.slice none 0 0) 0).toArray 92)
  have k3 := cell_past p1 (Obj.cells (hVals 0 0 (.slice none 0 0) 0).toArray 92)
  have H1 : Hid (IsBlock (w.alloc (Obj.cells (hVals 0 0 (.slice none 0 0) 0).toArray 92)) w.heap.size (hVals 0 0 (.slice none 0 0) 0)) := Lib.hid (IsBlock.new w _ 92)
  have O1 : Hid (Only (fun _ => False) w (w.alloc (Obj.cells (hVals 0 0 (.slice none 0 0) 0).toArray 92))) := Lib.hid ((Only.refl _ _).alloc _)
  have Z1 : Hid ((w.alloc (Obj.cells (hVals 0 0 (.slice none 0 0) 0).toArray 92)).heap.size = w.heap.size + 1) := Lib.hid (World.size_alloc _ _)
  refine (?_ : ∀ w1, w1 = w.alloc (Obj.cells (hVals 0 0 (.slice none 0 0) 0).toArray 92) → Code.wp _ _ _ _ w1) _ rfl
  intro w1 hw1
  rw [← hw1] at k0 k1 k2 k3 H1 O1 Z1
  clear hw1 g0 g1 p0 p1
  go_cut [3] from 9 to 17 (fun v wx => v = .pointer (some ⟨w.heap.size + 1, 0, none⟩) ∧ HwRel w (hNVals cnt sum 0 false 0 0 0 (.slice none 0 0) (.slice none 0 0) (.slice none 0 0) (.slice none 0 0)) wx)
  case first =>
    go_region_held3 (fun wx => wx.cell? ⟨q.g, 0, none⟩ = some (.pointer (some ⟨q.pc, 0, none⟩)) ∧ wx.cell? ⟨q.g, 1, none⟩ = some (.pointer (some ⟨q.ps, 0, none⟩)) ∧ wx.cell? ⟨q.pc, 0, none⟩ = some (.int .u64 cnt) ∧ wx.cell? ⟨q.ps, 0, none⟩ = some (.float .f64 sum))
      (refine ⟨?_, ?_, ?_, ?_⟩ <;> (simp only [World.cell?_drew]; repeat (first | assumption | apply cell_past)))
      (first | (go_at_call 75; refine (getCount_any q.g q.pc cnt _ ?_ ?_).mono ?_; (simp [*]); (simp [*]); rintro e w' ⟨rfl, rfl⟩))
    all_goals
      go_wp2_with fail
      go_meet
      refine ⟨by rw [Z1.out], ⟨?_, (H1.out.alloc _).drew, (O1.out.alloc _).drew, by show _ ≤ (w1.alloc _).heap.size; rw [World.size_alloc, Z1.out]; omega⟩⟩
      have h := (IsBlock.new w1 (hNVals cnt sum 0 false 0 0 0 (.slice none 0 0) (.slice none 0 0) (.slice none 0 0) (.slice none 0 0)) 92).drew
      rw [Z1.out] at h
      exact h
  obtain ⟨rfl, hR⟩ := hcut
  have HR := Lib.hid hR
  have D1 := HD.out wc hR.only
  have e2 : wc.cell? ⟨q.g, 2, none⟩ = some (.slice (some ⟨q.arr, 0, none⟩) 0 0) := D1.hg.cell rfl
  have e3 : wc.cell? ⟨q.g, 3, none⟩ = some (.pointer (some ⟨q.pt, 0, none⟩)) := D1.hg.cell rfl
  have et : wc.cell? ⟨q.pt, 0, none⟩ = some (.int .i64 created) := D1.ht.cell rfl
  have x3 : wc.cell? ⟨w.heap.size + 1, 3, none⟩ = some (.int .i64 0) := hR.hx.cell rfl
  have f3 := hR.hx.free 3
  clear hR D1 H1 O1 Z1 k0 k1 k2 k3
  go_wp2_with fail
  refine wp_loop_rounds 1 ?_
  rw [rounds_succ]
  go_upto_region 12 with fail
  refine (?_ : ∀ w9, w9 = wc.setCell ⟨w.heap.size + 1, 3, none⟩ (.int .i64 created) → Code.wp _ _ _ _ w9) _ rfl
  intro w9 hw9
  have H9 : Hid (HwRel w (hNVals cnt sum created false 0 0 0 (.slice none 0 0) (.slice none 0 0) (.slice none 0 0) (.slice none 0 0)) w9) := Lib.hid (by rw [hw9]; exact HR.out.set 3 _)
  clear hw9 e2 e3 et x3 f3 HR
  have hO9 := H9.out.only
  have HS : Hid (∀ wx, Only (fun _ => False) w wx → wx.cell? ⟨q.g, 4, none⟩ = some (.pointer (some ⟨q.psch, 0, none⟩)) ∧ wx.cell? ⟨q.psch, 0, none⟩ = some (.int .i32 sch) ∧ wx.cell? ⟨q.g, 5, none⟩ = some (.pointer (some ⟨q.pzt, 0, none⟩)) ∧ wx.cell? ⟨q.pzt, 0, none⟩ = some (.float .f64 zt) ∧ wx.cell? ⟨q.g, 6, none⟩ = some (.pointer (some ⟨q.pzc, 0, none⟩)) ∧ wx.cell? ⟨q.pzc, 0, none⟩ = some (.int .u64 zc)) := Lib.hid (fun wx ho => by
    have D := HD.out wx ho
    exact ⟨D.hg.cell rfl, D.hsch.cell rfl, D.hg.cell rfl, D.hzt.cell rfl, D.hg.cell rfl, D.hzc.cell rfl⟩)
  obtain ⟨s1, s2, s3, s4, s5, s6⟩ := HS.out w9 hO9
  have y4 := H9.out.hx.cell (i := 4) rfl
  have y5 := H9.out.hx.cell (i := 5) rfl
  have y6 := H9.out.hx.cell (i := 6) rfl
  have y7 := H9.out.hx.cell (i := 7) rfl
  have f4 := H9.out.hx.free 4
  have f5 := H9.out.hx.free 5
  have f6 := H9.out.hx.free 6
  have f7 := H9.out.hx.free 7
  go_upto_if 72 with fail
  go_upto_region 13 with fail
  go_cut [] from 73 to 86 (fun wx => HwRel w (hNVals cnt sum created true sch zt zc (.slice none 0 0) (.slice none 0 0) (.slice none 0 0) (.slice none 0 0)) wx)
  case first =>
    go_region_held3 (fun wx => wx.cell? ⟨q.g, 4, none⟩ = some (.pointer (some ⟨q.psch, 0, none⟩)) ∧ wx.cell? ⟨q.psch, 0, none⟩ = some (.int .i32 sch) ∧ wx.cell? ⟨q.g, 5, none⟩ = some (.pointer (some ⟨q.pzt, 0, none⟩)) ∧ wx.cell? ⟨q.pzt, 0, none⟩ = some (.float .f64 zt) ∧ wx.cell? ⟨q.g, 6, none⟩ = some (.pointer (some ⟨q.pzc, 0, none⟩)) ∧ wx.cell? ⟨q.pzc, 0, none⟩ = some (.int .u64 zc))
      ((refine HS.out _ ?_; with_reducible (repeat (first | assumption | exact Only.refl _ _ | apply Only.drew | apply Only.alloc | apply only_set2))))
      (first
        | (go_at_call 78; refine (getZT_any q.g q.pzt zt _ ?_ ?_).mono ?_; (simp [*]); (simp [*]); rintro e w' ⟨rfl, rfl⟩)
        | (go_at_call 79; refine (getZC_any q.g q.pzc zc _ ?_ ?_).mono ?_; (simp [*]); (simp [*]); rintro e w' ⟨rfl, rfl⟩))
    all_goals
      have HF : Hid (HwRel w (hNVals cnt sum created true sch zt zc (.slice none 0 0) (.slice none 0 0) (.slice none 0 0) (.slice none 0 0)) (((((w9.setCell ⟨w.heap.size + 1, 4, none⟩ (.bool true)).setCell ⟨w.heap.size + 1, 5, none⟩ (.int .i32 sch)).setCell ⟨w.heap.size + 1, 6, none⟩ (.float .f64 zt)).setCell ⟨w.heap.size + 1, 7, none⟩ (.int .u64 zc)).drew)) := Lib.hid ((((H9.out.set 4 (.bool true)).set 5 (.int .i32 sch)).set 6 (.float .f64 zt)).set 7 (.int .u64 zc)).drew
      go_wp2_with fail
      go_meet
      exact HF.out
  clear s1 s2 s3 s4 s5 s6 y4 y5 y6 y7 f4 f5 f6 f7 HS hO9 H9
  have H13 := Lib.hid hcut
  clear hcut
  obtain ⟨w13, hw13⟩ : ∃ w13, w13 = wc := ⟨_, rfl⟩
  rw [← hw13] at H13 ⊢
  clear hw13
  have hO13 := H13.out.only
  have HS : Hid (∀ wx, Only (fun _ => False) w wx → wx.cell? ⟨q.g, 7, none⟩ = some (.slice na.1 tn.sp.length na.2) ∧ wx.cell? ⟨q.g, 9, none⟩ = some (.slice pa.1 tp.sp.length pa.2)) := Lib.hid (fun wx ho => by
    have D := HD.out wx ho
    exact ⟨D.hg.cell rfl, D.hg.cell rfl⟩)
  obtain ⟨s7, s9⟩ := HS.out w13 hO13
  have hz13 := H13.out.size
  have y8 := H13.out.hx.cell (i := 8) rfl
  have y9 := H13.out.hx.cell (i := 9) rfl
  have f8 := H13.out.hx.free 8
  have f9 := H13.out.hx.free 9
  go_upto_region 14 with fail
  go_cut [] from 87 to 98 (fun wx => ∃ ra rc ga gc, HwRel w (hNVals cnt sum created true sch zt zc (.slice ra Ln.length rc) (.slice ga Lp.length gc) (.slice none 0 0) (.slice none 0 0)) wx ∧ wx.ownsRow (w.heap.size + 2) 213 2 (.slice ra Ln.length rc) Ln.length (runRow Ln) ∧ wx.ownsRow (w.heap.size + 2) 213 2 (.slice ga Lp.length gc) Lp.length (runRow Lp))
  case first =>
    go_region_held3 (fun wx => wx.cell? ⟨q.g, 7, none⟩ = some (.slice na.1 tn.sp.length na.2) ∧ wx.cell? ⟨q.g, 9, none⟩ = some (.slice pa.1 tp.sp.length pa.2))
      ((refine HS.out _ ?_; with_reducible (repeat (first | assumption | exact Only.refl _ _ | apply Only.drew | apply Only.alloc | apply only_set2))))
      (first
        | (go_at_call 80
           refine (HNC.out _ ?_).mono ?_
           · with_reducible (repeat (first | assumption | exact Only.refl _ _ | apply Only.drew | apply Only.alloc | apply only_set2))
           rintro e wn ⟨un, rfl, n1, n2⟩
           obtain ⟨ra, rc, rfl⟩ := ownsRow_slice n1
           have hqn : Only (fun _ => False) w13 wn := only_pre n2 (by with_reducible (repeat (first | exact Only.refl _ _ | apply Only.drew)))
           have HA := Lib.hid (And.intro (ownsRow_lower n1 hz13) (And.intro hqn (Nat.le_trans hz13 hqn.size)))
           have hOn := hO13.trans hqn
           have t7 := (HS.out wn hOn).1
           have t9 := (HS.out wn hOn).2
           clear n1 n2 hqn HNC)
        | (go_at_call 80
           refine (HPC.out _ ?_).mono ?_
           · with_reducible (repeat (first | assumption | exact Only.refl _ _ | apply Only.drew | apply Only.alloc | apply only_set2))
           rintro e wp ⟨up, rfl, p1, p2⟩
           obtain ⟨ga, gc, rfl⟩ := ownsRow_slice p1
           have hnp : Only (fun _ => False) wn wp := only_pre p2 (by with_reducible (repeat (first | exact Only.refl _ _ | apply Only.drew)))
           have HB := Lib.hid (And.intro (ownsRow_lower p1 HA.out.2.2) hnp)
           have hOp := hOn.trans hnp
           have u7 := (HS.out wp hOp).1
           have u9 := (HS.out wp hOp).2
           have HXp := Lib.hid ((H13.out.kept HA.out.2.1).kept hnp)
           have z8 : wp.cell? ⟨w.heap.size + 1, 8, none⟩ = some (.slice none 0 0) := HXp.out.hx.cell rfl
           have z9 : wp.cell? ⟨w.heap.size + 1, 9, none⟩ = some (.slice none 0 0) := HXp.out.hx.cell rfl
           have zf8 := HXp.out.hx.free 8
           have zf9 := HXp.out.hx.free 9
           clear p1 p2 hnp HPC))
    all_goals
      have HF : Hid (∃ ra' rc' ga' gc', HwRel w (hNVals cnt sum created true sch zt zc (.slice ra' Ln.length rc') (.slice ga' Lp.length gc') (.slice none 0 0) (.slice none 0 0)) (((wp.setCell ⟨w.heap.size + 1, 8, none⟩ (.slice ra Ln.length rc)).setCell ⟨w.heap.size + 1, 9, none⟩ (.slice ga Lp.length gc))) ∧ (((wp.setCell ⟨w.heap.size + 1, 8, none⟩ (.slice ra Ln.length rc)).setCell ⟨w.heap.size + 1, 9, none⟩ (.slice ga Lp.length gc))).ownsRow (w.heap.size + 2) 213 2 (.slice ra' Ln.length rc') Ln.length (runRow Ln) ∧
          (((wp.setCell ⟨w.heap.size + 1, 8, none⟩ (.slice ra Ln.length rc)).setCell ⟨w.heap.size + 1, 9, none⟩ (.slice ga Lp.length gc))).ownsRow (w.heap.size + 2) 213 2 (.slice ga' Lp.length gc') Lp.length (runRow Lp)) := Lib.hid
        ⟨ra, rc, ga, gc, ((HXp.out.set 8 (.slice ra Ln.length rc)).set 9 (.slice ga Lp.length gc)), (ownsRow_setCell_below (ownsRow_setCell_below (HB.out.2.ownsRow HA.out.1 (fun _ _ => id)) (a := ⟨w.heap.size + 1, 8, none⟩) (Nat.lt_succ_self _) _) (a := ⟨w.heap.size + 1, 9, none⟩) (Nat.lt_succ_self _) _), (ownsRow_setCell_below (ownsRow_setCell_below HB.out.1 (a := ⟨w.heap.size + 1, 8, none⟩) (Nat.lt_succ_self _) _) (a := ⟨w.heap.size + 1, 9, none⟩) (Nat.lt_succ_self _) _)⟩
      clear z8 z9 zf8 zf9 u7 u9 t7 t9
      go_wp2_with fail
      go_meet
      exact HF.out
  obtain ⟨ra, rc, ga, gc, h14⟩ := hcut
  have H14 := Lib.hid h14
  clear h14 H13 hO13 s7 s9 y8 y9 f8 f9 hz13 HS HNC HPC
  obtain ⟨w14, hw14⟩ : ∃ w14, w14 = wc := ⟨_, rfl⟩
  rw [← hw14] at H14 ⊢
  clear hw14
  have hO14 := H14.out.1.only
  have HS : Hid (∀ wx, Only (fun _ => False) w wx → wx.cell? ⟨q.g, 8, none⟩ = some (.slice da.1 tn.ds.length da.2) ∧ wx.cell? ⟨q.g, 10, none⟩ = some (.slice ea.1 tp.ds.length ea.2)) := Lib.hid (fun wx ho => by
    have D := HD.out wx ho
    exact ⟨D.hg.cell rfl, D.hg.cell rfl⟩)
  have HE1 := Lib.hid (fun (wx : World) (ho : Only (fun _ => False) w wx) => src_of_owns (HD.out wx ho).neg.vd)
  have HE2 := Lib.hid (fun (wx : World) (ho : Only (fun _ => False) w wx) => src_of_owns (HD.out wx ho).pos.vd)
  obtain ⟨s8, s10⟩ := HS.out w14 hO14
  have hz14 := H14.out.1.size
  go_upto_region 15 with fail
  go_cut [] from 99 to 110 (fun wx => ∃ xa xc ya yc, HwRel w (hNVals cnt sum created true sch zt zc (.slice ra Ln.length rc) (.slice ga Lp.length gc) (.slice xa tn.ds.length xc) (.slice ya tp.ds.length yc)) wx ∧ wx.ownsRow (w.heap.size + 2) 213 2 (.slice ra Ln.length rc) Ln.length (runRow Ln) ∧ wx.ownsRow (w.heap.size + 2) 213 2 (.slice ga Lp.length gc) Lp.length (runRow Lp) ∧ wx.ownsRow (w.heap.size + 2) 2 1 (.slice xa tn.ds.length xc) tn.ds.length (ints64 tn.ds) ∧ wx.ownsRow (w.heap.size + 2) 2 1 (.slice ya tp.ds.length yc) tp.ds.length (ints64 tp.ds))
  case first =>
    go_region_held3 (fun wx => wx.cell? ⟨q.g, 8, none⟩ = some (.slice da.1 tn.ds.length da.2) ∧ wx.cell? ⟨q.g, 10, none⟩ = some (.slice ea.1 tp.ds.length ea.2))
      ((refine HS.out _ ?_; with_reducible (repeat (first | assumption | exact Only.refl _ _ | apply Only.drew | apply Only.alloc | apply only_set2))))
      (first
        | (refine step_append_src _ (by rfl) _ _ _ (by rfl) (w.heap.size + 2) 2 i2 _ 1 8 Tryz.underlying33 hi hz0 hz1 hz2 rfl (by omega) (.slice none 0 0) 0 [] (by rfl) (World.ownsRow_nil _ _ _ _) (.slice da.1 tn.ds.length da.2) tn.ds.length (ints64 tn.ds) (by rfl) (HE1.out _ ?o1) (one_ints _) (by have := HL.out; unfold maxLen; omega) (by have := HL.out; omega) (by first | exact hz14 | simpa using hz14) ?_
           case o1 => with_reducible (repeat (first | assumption | exact Only.refl _ _ | apply Only.drew | apply Only.alloc | apply only_set2))
           intro vn wn n1 n2 _
           rw [Nat.zero_add, List.nil_append] at n1
           obtain ⟨xa, xc, rfl⟩ := ownsRow_slice n1
           have hqn : Only (fun _ => False) w14 wn := only_pre ((Only.grown n2).mono (fun _ _ e => by cases e)) (by with_reducible (repeat (first | exact Only.refl _ _ | apply Only.drew)))
           have HA := Lib.hid (And.intro n1 (And.intro hqn (Nat.le_trans hz14 hqn.size)))
           have hzn := HA.out.2.2
           have hOn := hO14.trans hqn
           have t8 := (HS.out wn hOn).1
           have t10 := (HS.out wn hOn).2
           clear n1 n2 hqn HE1)
        | (refine step_append_src _ (by rfl) _ _ _ (by rfl) (w.heap.size + 2) 2 i2 _ 1 8 Tryz.underlying33 hi hz0 hz1 hz2 rfl (by omega) (.slice none 0 0) 0 [] (by rfl) (World.ownsRow_nil _ _ _ _) (.slice ea.1 tp.ds.length ea.2) tp.ds.length (ints64 tp.ds) (by rfl) (HE2.out _ ?o2) (one_ints _) (by have := HL.out; unfold maxLen; omega) (by have := HL.out; omega) (by first | exact hzn | simpa using hzn) ?_
           case o2 => with_reducible (repeat (first | assumption | exact Only.refl _ _ | apply Only.drew | apply Only.alloc | apply only_set2))
           intro vp wp p1 p2 _
           rw [Nat.zero_add, List.nil_append] at p1
           obtain ⟨ya, yc, rfl⟩ := ownsRow_slice p1
           have hnp : Only (fun _ => False) wn wp := only_pre ((Only.grown p2).mono (fun _ _ e => by cases e)) (by with_reducible (repeat (first | exact Only.refl _ _ | apply Only.drew)))
           have HB := Lib.hid (And.intro p1 (And.intro hnp (HA.out.2.1.trans hnp)))
           have hOp := hOn.trans hnp
           have u8 := (HS.out wp hOp).1
           have u10 := (HS.out wp hOp).2
           have HXp := Lib.hid (H14.out.1.kept HB.out.2.2)
           have z10 : wp.cell? ⟨w.heap.size + 1, 10, none⟩ = some (.slice none 0 0) := HXp.out.hx.cell rfl
           have z11 : wp.cell? ⟨w.heap.size + 1, 11, none⟩ = some (.slice none 0 0) := HXp.out.hx.cell rfl
           have zf10 := HXp.out.hx.free 10
           have zf11 := HXp.out.hx.free 11
           clear p1 p2 hnp HE2))
    all_goals
      have HF : Hid (∃ xa' xc' ya' yc', HwRel w (hNVals cnt sum created true sch zt zc (.slice ra Ln.length rc) (.slice ga Lp.length gc) (.slice xa' tn.ds.length xc') (.slice ya' tp.ds.length yc')) ((wp.setCell ⟨w.heap.size + 1, 10, none⟩ (.slice xa tn.ds.length xc)).setCell ⟨w.heap.size + 1, 11, none⟩ (.slice ya tp.ds.length yc)) ∧ ((wp.setCell ⟨w.heap.size + 1, 10, none⟩ (.slice xa tn.ds.length xc)).setCell ⟨w.heap.size + 1, 11, none⟩ (.slice ya tp.ds.length yc)).ownsRow (w.heap.size + 2) 213 2 (.slice ra Ln.length rc) Ln.length (runRow Ln) ∧ ((wp.setCell ⟨w.heap.size + 1, 10, none⟩ (.slice xa tn.ds.length xc)).setCell ⟨w.heap.size + 1, 11, none⟩ (.slice ya tp.ds.length yc)).ownsRow (w.heap.size + 2) 213 2 (.slice ga Lp.length gc) Lp.length (runRow Lp) ∧ ((wp.setCell ⟨w.heap.size + 1, 10, none⟩ (.slice xa tn.ds.length xc)).setCell ⟨w.heap.size + 1, 11, none⟩ (.slice ya tp.ds.length yc)).ownsRow (w.heap.size + 2) 2 1 (.slice xa' tn.ds.length xc') tn.ds.length (ints64 tn.ds) ∧ ((wp.setCell ⟨w.heap.size + 1, 10, none⟩ (.slice xa tn.ds.length xc)).setCell ⟨w.heap.size + 1, 11, none⟩ (.slice ya tp.ds.length yc)).ownsRow (w.heap.size + 2) 2 1 (.slice ya' tp.ds.length yc') tp.ds.length (ints64 tp.ds)) := Lib.hid (by
        have ho : Only (fun k => k = w.heap.size + 1) wp ((wp.setCell ⟨w.heap.size + 1, 10, none⟩ (.slice xa tn.ds.length xc)).setCell ⟨w.heap.size + 1, 11, none⟩ (.slice ya tp.ds.length yc)) := ((Only.refl (fun k => k = w.heap.size + 1) wp).setCell (p := ⟨w.heap.size + 1, 10, none⟩) (.inl rfl) _).setCell (p := ⟨w.heap.size + 1, 11, none⟩) (.inl rfl) _
        have hk : ∀ {e sz n : Nat} {v : Value} {xs : List Value}, wp.ownsRow (w.heap.size + 2) e sz v n xs → ((wp.setCell ⟨w.heap.size + 1, 10, none⟩ (.slice xa tn.ds.length xc)).setCell ⟨w.heap.size + 1, 11, none⟩ (.slice ya tp.ds.length yc)).ownsRow (w.heap.size + 2) e sz v n xs := fun h => ho.ownsRow h (fun k hk e => by have := (h.lt k hk).1; omega)
        exact ⟨xa, xc, ya, yc, (HXp.out.set 10 (.slice xa tn.ds.length xc)).set 11 (.slice ya tp.ds.length yc), hk (HB.out.2.2.ownsRow H14.out.2.1 (fun _ _ => id)), hk (HB.out.2.2.ownsRow H14.out.2.2 (fun _ _ => id)), hk (HB.out.2.1.ownsRow HA.out.1 (fun _ _ => id)), hk HB.out.1⟩)
      clear z10 z11 zf10 zf11 u8 u10 t8 t10
      go_wp2_with fail
      go_meet
      exact HF.out
  obtain ⟨xa, xc, ya, yc, h15⟩ := hcut
  have H15 := Lib.hid h15
  clear h15 H14 hO14 s8 s10 hz14 HS HE1 HE2
  have D15 := HD.out wc H15.out.1.only
  have e11 : wc.cell? ⟨q.g, 11, none⟩ = some (.slice none 0 0) := D15.hg.cell rfl
  clear D15
  go_wp2_with fail
  refine wp_loop_rounds 1 ?_
  rw [rounds_succ]
  go_upto_region 21 with fail
  obtain ⟨w15, hw15⟩ : ∃ w15, w15 = wc := ⟨_, rfl⟩
  rw [← hw15] at H15 ⊢
  clear hw15 e11
  have HXX := Lib.hid H15.out.1.hx
  have HH0 := Lib.hid H15.out.1.h0
  have y0 := HXX.out.cell (i := 0) rfl
  have y1 := HXX.out.cell (i := 1) rfl
  have y2 := HXX.out.cell (i := 2) rfl
  have y3 := HXX.out.cell (i := 3) rfl
  have y4 := HXX.out.cell (i := 4) rfl
  have y5 := HXX.out.cell (i := 5) rfl
  have y6 := HXX.out.cell (i := 6) rfl
  have y7 := HXX.out.cell (i := 7) rfl
  have y8 := HXX.out.cell (i := 8) rfl
  have y9 := HXX.out.cell (i := 9) rfl
  have y10 := HXX.out.cell (i := 10) rfl
  have y11 := HXX.out.cell (i := 11) rfl
  have y12 := HXX.out.cell (i := 12) rfl
  have z0 := HH0.out.cell (i := 0) rfl
  have z1 := HH0.out.cell (i := 1) rfl
  have z2 := HH0.out.cell (i := 2) rfl
  have z3 := HH0.out.cell (i := 3) rfl
  have z4 := HH0.out.cell (i := 4) rfl
  have z5 := HH0.out.cell (i := 5) rfl
  have z6 := HH0.out.cell (i := 6) rfl
  have z7 := HH0.out.cell (i := 7) rfl
  have z8 := HH0.out.cell (i := 8) rfl
  have z9 := HH0.out.cell (i := 9) rfl
  have z10 := HH0.out.cell (i := 10) rfl
  have z11 := HH0.out.cell (i := 11) rfl
  have z12 := HH0.out.cell (i := 12) rfl
  have zf := HH0.out.free
  go_wp2_with fail
  refine (?_ : ∀ w16, w16 = _ → bodyPost _ _ _ _ _ w16) _ rfl
  intro w16 h16
  have HB : IsBlock w16 w.heap.size (hNVals cnt sum created true sch zt zc (.slice ra Ln.length rc) (.slice ga Lp.length gc) (.slice xa tn.ds.length xc) (.slice ya tp.ds.length yc)) := by rw [h16]; exact (((((((((((((HH0.out.set 0 _).set 1 _).set 2 _).set 3 _).set 4 _).set 5 _).set 6 _).set 7 _).set 8 _).set 9 _).set 10 _).set 11 _).set 12 _)
  have HO : Only (fun k => k = w.heap.size) w15 w16 := by rw [h16]; exact ((((((((((((((Only.refl (fun k => k = w.heap.size) w15).setCell (p := ⟨w.heap.size, 0, none⟩) (.inl rfl) _).setCell (p := ⟨w.heap.size, 1, none⟩) (.inl rfl) _).setCell (p := ⟨w.heap.size, 2, none⟩) (.inl rfl) _).setCell (p := ⟨w.heap.size, 3, none⟩) (.inl rfl) _).setCell (p := ⟨w.heap.size, 4, none⟩) (.inl rfl) _).setCell (p := ⟨w.heap.size, 5, none⟩) (.inl rfl) _).setCell (p := ⟨w.heap.size, 6, none⟩) (.inl rfl) _).setCell (p := ⟨w.heap.size, 7, none⟩) (.inl rfl) _).setCell (p := ⟨w.heap.size, 8, none⟩) (.inl rfl) _).setCell (p := ⟨w.heap.size, 9, none⟩) (.inl rfl) _).setCell (p := ⟨w.heap.size, 10, none⟩) (.inl rfl) _).setCell (p := ⟨w.heap.size, 11, none⟩) (.inl rfl) _).setCell (p := ⟨w.heap.size, 12, none⟩) (.inl rfl) _)
  have hk : ∀ {e sz n : Nat} {v : Value} {xs : List Value}, w15.ownsRow (w.heap.size + 2) e sz v n xs → w16.ownsRow (w.heap.size + 2) e sz v n xs := fun h => HO.ownsRow h (fun k hk e => by have := (h.lt k hk).1; omega)
  have hall : Only (fun _ => False) w w16 := Only.widen H15.out.1.only HO (fun j hj => by omega)
  clear h16 y0 y1 y2 y3 y4 y5 y6 y7 y8 y9 y10 y11 y12 z0 z1 z2 z3 z4 z5 z6 z7 z8 z9 z10 z11 z12 zf
  have y0 := HB.cell (i := 0) rfl
  have y1 := HB.cell (i := 1) rfl
  have y2 := HB.cell (i := 2) rfl
  have y3 := HB.cell (i := 3) rfl
  have y4 := HB.cell (i := 4) rfl
  have y5 := HB.cell (i := 5) rfl
  have y6 := HB.cell (i := 6) rfl
  have y7 := HB.cell (i := 7) rfl
  have y8 := HB.cell (i := 8) rfl
  have y9 := HB.cell (i := 9) rfl
  have y10 := HB.cell (i := 10) rfl
  have y11 := HB.cell (i := 11) rfl
  have y12 := HB.cell (i := 12) rfl
  refine bodyPost_ret (v := .agg (hNVals cnt sum created true sch zt zc (.slice ra Ln.length rc) (.slice ga Lp.length gc) (.slice xa tn.ds.length xc) (.slice ya tp.ds.length yc)).toArray) (by simp [results, Tryz.results56, go_sem, y0, y1, y2, y3, y4, y5, y6, y7, y8, y9, y10, y11, y12, hNVals]) rfl ⟨_, _, _, _, Ln, Lp, rfl, hk H15.out.2.1, hk H15.out.2.2.1, hk H15.out.2.2.2.1, hk H15.out.2.2.2.2, HMP.out.1, HMP.out.2, hall⟩
end Go.Proofs.YtebjclmbacmilaaGreatDoor
