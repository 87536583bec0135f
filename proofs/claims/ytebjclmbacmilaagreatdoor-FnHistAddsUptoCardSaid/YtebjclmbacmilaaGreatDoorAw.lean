/- FnHistAdds answers true. Conditions: as stated. -/
import Derived.Test.YtebjclmbacmilaaGreatDoorAs
import Derived.Test.YtebjclmbacmilaaGreatDoorPa
import Derived.Test.YtebjclmbacmilaaGreatDoorFt
import Derived.Deep.CutBlock
namespace Go.Proofs.YtebjclmbacmilaaGreatDoor
open Go.RowKit

theorem ints_mono {w w' : World} {ba : Option Addr} {zs : List Int} (h : InInts w ba zs) (ho : Only (fun _ => False) w w') : InInts w' ba zs := fun i hi => by
  obtain ⟨b, off, he, hc, h1, h2⟩ := h i hi
  exact ⟨b, off, he, ho.cell hc id, h1, h2⟩
theorem obs_row (bsl : Value) (la : Option Addr) (lc : Nat) (l : List Nat) (gs : Addr) (gc : Nat) (bs0 bs : List Nat) (w : World)
    (hg : w.cell? ⟨2, 0, none⟩ = some (.slice (some gs) 1 gc)) (hgs : w.cell? gs = some (.int .u8 255))
    (hb : SrcIs w bsl 1 bs0.length (f64s bs0)) (hlen : bs0.length ≤ 1048577) (hasc : Asc (effBs bs0)) (hinc : Incr (cutBs (effBs bs0))) (he : bs = cutBs (effBs bs0))
    (hc : InCells w la l) (hl : l.length ≤ 2097152) :
    Calls Tryz.prog 15 #[.agg #[bsl, .float .f64 0, .float .f64 0, .int .u32 0, .int .i64 0, .float .f64 0, .int .i64 0, .int .i64 0], .slice la l.length lc] w fun e w' => ∃ R : AdR, e = .returned (.tuple #[.agg (R.lit bs l).toArray, .bool true]) ∧
      SumTo l R.s ∧ BkIn bs l R.qa w' ∧ (∀ g, R.qa = some ⟨g, 0, none⟩ → Is43 w' g) ∧ Only (fun _ => False) w w' := by
  subst he
  refine (histObserve_plain bsl 0 0 0 0 0 0 0 la lc l gs gc bs0 w hg hgs order_zero hb hlen hasc hinc hc hl).mono ?_
  rintro e w' ⟨r, rfl, hrec, hrow, hon⟩
  obtain ⟨hl2, hbk⟩ := told_cells hrec hrow
  have h1 : r.cnt = l.length := hrec.cnt
  have h2 : r.created = 0 := hrec.created
  refine ⟨⟨r.sum, r.qa, r.qc, r.b1, r.b2⟩, ?_, hrec.sum, hbk, fun g hg => ?_, hon⟩
  · unfold shC AdR.lit
    rw [h1, h2, hl2]
  · obtain ⟨cur, hc⟩ := ownsRow_type hrow (k := g) (by unfold SR.q; rw [show r.qa = some ⟨g, 0, none⟩ from hg]; rfl)
    exact ⟨cur, _, hc⟩

set_option maxRecDepth 100000 in
set_option maxHeartbeats 6400000 in
theorem fnAdds_any (ba : Option Addr) (bc : Nat) (bs : List Nat) (xa : Option Addr) (xc : Nat) (xs : List Int) (ya : Option Addr) (yc : Nat) (ys : List Int) (gs : Addr) (gc : Nat) (w : World)
    (hg : w.cell? ⟨2, 0, none⟩ = some (.slice (some gs) 1 gc)) (hgs : w.cell? gs = some (.int .u8 255))
    (hb : InCells w ba bs) (hbl : bs.length ≤ 1048577) (hx : InInts w xa xs) (hxl : xs.length ≤ 1048576) (hy : InInts w ya ys) (hyl : ys.length ≤ 1048576) :
    Calls Tryz.prog 3 #[.slice ba bs.length bc, .slice xa xs.length xc, .slice ya ys.length yc] w fun e w' => e = .returned (.bool true) ∧ Only (fun _ => False) w w' := by
  obtain ⟨i25, hi, hz0, hz1, hz2⟩ := info_parts info25
  have hl1 : ¬ (2147483647 : Int) < (bs.length : Int) := by omega
  have hl2 : ¬ (2147483647 : Int) < (xs.length : Int) := by omega
  have hl3 : ¬ (2147483647 : Int) < (ys.length : Int) := by omega
  have HG := Lib.hid hg
  have HGS := Lib.hid hgs
  have HX := Lib.hid hx
  have HY := Lib.hid hy
  have HXL := Lib.hid hxl
  have HYL := Lib.hid hyl
  have HB := Lib.hid (histFits_plain ba bc bs w hb hbl)
  have hF := fits_inv bs
  have HFL : Hid ((fits bs).length ≤ 1048577) := Lib.hid (by have := hF.len; omega)
  have HASC : Hid (Asc (effBs (fits bs))) := Lib.hid (asc_eff.2 hF.asc)
  have HINC : Hid (Incr (cutBs (effBs (fits bs)))) := Lib.hid (incr_cut (incr_of_asc (nan_eff hF.nan) (asc_eff.2 hF.asc)))
  obtain ⟨F, hFe⟩ : ∃ F, F = fits bs := ⟨_, rfl⟩
  rw [← hFe] at HFL HASC HINC HB
  obtain ⟨C, hCe⟩ : ∃ C, C = cutBs (effBs F) := ⟨_, rfl⟩
  have HCE := Lib.hid hCe
  have HCL : Hid (C.length ≤ 1048577) := Lib.hid (by rw [hCe]; have h1 := cutBs_len (effBs F); have h2 := effBs_len HFL.out; omega)
  have HIC : Hid (Incr C) := Lib.hid (by rw [hCe]; exact HINC.out)
  clear hCe
  clear hg hgs hx hy hxl hyl hb hF hFe
  go_enter Tryz.func3, Tryz.ntmps3
  go_wp2_with fail
  refine HB.out.mono ?_
  rintro e w1 ⟨v, rfl, ho1, hon1⟩
  obtain ⟨fa, fc, rfl⟩ := ownsRow_slice ho1
  have HO1 := Lib.hid hon1
  have HS1 := Lib.hid (src_of_owns ho1)
  clear ho1 hon1 HB
  go_wp2_with fail
  refine (?_ : ∀ w2, w2 = _ → Calls Tryz.prog 14 _ w2 _) _ rfl
  intro w2 hw2
  obtain ⟨hs2, hon2⟩ := new_blk (sVals (.slice fa F.length fc) 0 0 0 0 0 0 0) 28 hw2
  have HS2 := Lib.hid hs2
  have HO2 := Lib.hid (HO1.out.trans hon2)
  have HSR2 : Hid (SrcIs w2 (.slice fa F.length fc) 1 F.length (f64s F)) := Lib.hid (HS1.out.mono (fun a v h => hon2.cell h id))
  clear hw2 hs2 hon2 HS1 HO1
  refine (histWhole_plain xa xc xs w2 (ints_mono HX.out HO2.out) HXL.out).mono ?_
  rintro e w3 ⟨v, rfl, hr3, hon3⟩
  rw [← whole_len xs] at hr3
  obtain ⟨X, hXe⟩ : ∃ X, X = whole xs := ⟨_, rfl⟩
  rw [← hXe] at hr3
  obtain ⟨ua, uc, rfl⟩ := ownsRow_slice hr3
  have HXE := Lib.hid hXe
  have HXR := Lib.hid hr3
  have HON3 := Lib.hid hon3
  clear hXe hr3 hon3
  go_wp2_with fail
  refine (histWhole_plain ya yc ys w3 (ints_mono HY.out (HO2.out.trans HON3.out)) HYL.out).mono ?_
  rintro e w4 ⟨v, rfl, hr4, hon4⟩
  rw [← whole_len ys] at hr4
  obtain ⟨Y, hYe⟩ : ∃ Y, Y = whole ys := ⟨_, rfl⟩
  rw [← hYe] at hr4
  obtain ⟨va, vc, rfl⟩ := ownsRow_slice hr4
  have HYE := Lib.hid hYe
  have HYR := Lib.hid hr4
  have HXL2 : Hid (X.length ≤ 1048576) := Lib.hid (by rw [HXE.out, whole_len]; exact HXL.out)
  have HYL2 : Hid (Y.length ≤ 1048576) := Lib.hid (by rw [HYE.out, whole_len]; exact HYL.out)
  have HO24 := Lib.hid (HON3.out.trans hon4)
  have HO4 := Lib.hid (HO2.out.trans HO24.out)
  have HX4 := Lib.hid (hon4.ownsRow HXR.out (fun _ _ => id))
  have HS4 := Lib.hid (HO24.out.isBlock HS2.out id)
  have HOB := Lib.hid (fun (la : Option Addr) (lc : Nat) (l : List Nat) (wq : World) (hq : Only (fun _ => False) w4 wq) (hc : InCells wq la l) (hl : l.length ≤ 2097152) => obs_row (.slice fa F.length fc) la lc l gs gc F C wq (hq.cell (HO4.out.cell HG.out id) id) (hq.cell (HO4.out.cell HGS.out id) id) (HSR2.out.mono (fun _ _ h => hq.cell (HO24.out.cell h id) id)) HFL.out HASC.out HINC.out HCE.out hc hl)
  clear hYe hr4 hon4 HXR HSR2 HS2 HO24
  have c0 := HS4.out.cell (i := 0) rfl
  have c1 := HS4.out.cell (i := 1) rfl
  have c2 := HS4.out.cell (i := 2) rfl
  have c3 := HS4.out.cell (i := 3) rfl
  have c4 := HS4.out.cell (i := 4) rfl
  have c5 := HS4.out.cell (i := 5) rfl
  have c6 := HS4.out.cell (i := 6) rfl
  have c7 := HS4.out.cell (i := 7) rfl
  go_wp2_with fail
  refine (HOB.out ua uc X w4 (Only.refl _ _) (cells_of_owns HX4.out rfl).1 (by have := HXL2.out; omega)).mono ?_
  rintro e w5 ⟨R1, rfl, hs1, hb1, hg1, hon5⟩
  unfold AdR.lit
  clear c0 c1 c2 c3 c4 c5 c6 c7
  go_upto_region 6 with fail
  refine (?_ : ∀ w6, w6 = _ → Code.wp _ _ _ _ w6) _ rfl
  intro w6 hw6
  obtain ⟨hA6, ho6⟩ := new_blk (R1.lit C X) 36 hw6
  have HS1 := Lib.hid hs1
  have HB1 := Lib.hid (hb1.mono ho6)
  have HA6 := Lib.hid hA6
  have HO46 := Lib.hid (hon5.trans ho6)
  have hS6 := (hon5.trans ho6).isBlock HS4.out id
  have HS6 := Lib.hid hS6
  have c0 := hS6.cell (i := 0) rfl
  have c1 := hS6.cell (i := 1) rfl
  have c2 := hS6.cell (i := 2) rfl
  have c3 := hS6.cell (i := 3) rfl
  have c4 := hS6.cell (i := 4) rfl
  have c5 := hS6.cell (i := 5) rfl
  have c6 := hS6.cell (i := 6) rfl
  have c7 := hS6.cell (i := 7) rfl
  clear hs1 hb1 hg1 hA6 ho6 hw6 hon5 hS6
  go_wp2_with fail
  refine (HOB.out va vc Y w6 HO46.out ((cells_of_owns HYR.out rfl).1.mono HO46.out) (by have := HYL2.out; omega)).mono ?_
  rintro e w7 ⟨R2, rfl, hs2, hb2, hg2, hon7⟩
  unfold AdR.lit
  clear c0 c1 c2 c3 c4 c5 c6 c7
  go_upto_region 7 with fail
  refine (?_ : ∀ w8, w8 = _ → Code.wp _ _ _ _ w8) _ rfl
  intro w8 hw8
  obtain ⟨hB8, ho8⟩ := new_blk (R2.lit C Y) 36 hw8
  have HS2 := Lib.hid hs2
  have HB2 := Lib.hid (hb2.mono ho8)
  have HO68 := Lib.hid (hon7.trans ho8)
  have HO48 := Lib.hid (HO46.out.trans HO68.out)
  have HA8 := Lib.hid (HO68.out.isBlock HA6.out id)
  have HB8 := Lib.hid hB8
  have HB1 := Lib.hid (HB1.out.mono HO68.out)
  clear hs2 hb2 hg2 hB8 ho8 hw8 hon7
  go_cut [14, 15] from 49 to 58 (fun v14 v15 wx => v15 = .bool true ∧ ∃ z R, v14 = .pointer (some ⟨z, 0, none⟩) ∧ IsBlock wx z (AdR.lit R C (X ++ Y)) ∧ SumTo (X ++ Y) R.s ∧ BkIn C (X ++ Y) R.qa wx ∧ Only (fun _ => False) w8 wx)
  case first =>
    refine region7_adds w8 w1.heap.size fa fc F C ua uc X va vc Y _ {
      blk := HO68.out.isBlock HS6.out id
      e7 := rfl
      e8 := rfl
      e9 := rfl
      hx := src_of_owns (HO48.out.ownsRow HX4.out (fun _ _ => id))
      hy := src_of_owns (HO48.out.ownsRow HYR.out (fun _ _ => id))
      lx := HXL2.out
      ly := HYL2.out
      obs := fun ta tc wq hq hc => HOB.out ta tc (X ++ Y) wq (HO48.out.trans hq) hc (by rw [List.length_append]; have := HXL2.out; have := HYL2.out; omega) } rfl _ ?_
    intro s wq R z h14 h15 hblk hsum hbk hon
    have HFN := Lib.hid (And.intro hblk (And.intro hsum (And.intro hbk hon)))
    clear hblk hsum hbk hon
    unfold fr3
    rw [h14, h15]
    go_simp
    go_wp2_with fail
    go_meet
    exact ⟨rfl, z, R, rfl, HFN.out⟩
  obtain ⟨rfl, z, R3, rfl, hz3, hs3, hb3, hon3⟩ := hcut
  have hA := hon3.isBlock HA8.out id
  have hB := hon3.isBlock HB8.out id
  have a0 : wc.cell? ⟨w5.heap.size, 0, none⟩ = some (.int .u64 X.length) := hA.cell rfl
  have a1 : wc.cell? ⟨w5.heap.size, 1, none⟩ = some (.float .f64 R1.s) := hA.cell rfl
  have a2 : wc.cell? ⟨w5.heap.size, 2, none⟩ = some (.slice R1.qa C.length R1.qc) := hA.cell rfl
  have b0 : wc.cell? ⟨w7.heap.size, 0, none⟩ = some (.int .u64 Y.length) := hB.cell rfl
  have b1 : wc.cell? ⟨w7.heap.size, 1, none⟩ = some (.float .f64 R2.s) := hB.cell rfl
  have b2 : wc.cell? ⟨w7.heap.size, 2, none⟩ = some (.slice R2.qa C.length R2.qc) := hB.cell rfl
  have z0 : wc.cell? ⟨z, 0, none⟩ = some (.int .u64 ((X.length : Int) + (Y.length : Int))) := by
    have h : wc.cell? ⟨z, 0, none⟩ = some (.int .u64 (X ++ Y).length) := hz3.cell rfl
    rw [h, List.length_append]; rfl
  have z1 : wc.cell? ⟨z, 1, none⟩ = some (.float .f64 R3.s) := hz3.cell rfl
  have z2 : wc.cell? ⟨z, 2, none⟩ = some (.slice R3.qa C.length R3.qc) := hz3.cell rfl
  have HBA := Lib.hid (HB1.out.mono hon3)
  have HBB := Lib.hid (HB2.out.mono hon3)
  have HBZ := Lib.hid hb3
  have hex := sums_exact HXL.out HYL.out (by rw [← HXE.out]; exact HS1.out) (by rw [← HYE.out]; exact HS2.out) (by rw [← HXE.out, ← HYE.out]; exact hs3)
  have HEX := Lib.hid hex
  have HOW := Lib.hid ((HO4.out.trans HO48.out).trans hon3)
  have hxl : (X.length : Int) ≤ 1048576 := by have := HXL2.out; omega
  have hcl : (C.length : Int) ≤ 1048577 := by have := HCL.out; omega
  have hyl : (Y.length : Int) ≤ 1048576 := by have := HYL2.out; omega
  clear hA hB hz3 hs3 hb3 hon3 hex HOB HS4 HS6 HA6 HA8 HB8 HX4 HYR
  go_upto_block 0 with fail
  go_wp2_with fail
  go_loopw [16] (fun i wr => ∃ (k : Nat), k ≤ C.length ∧ i = .int .i64 k ∧ Only (fun _ => False) wc wr) (fun i _ => C.length - (intOf i).toNat)
  case atStart => exact ⟨0, Nat.zero_le _, rfl, Only.refl _ _⟩
  case round =>
    obtain ⟨k, hk, rfl, hwr⟩ := hrel
    have HWR := Lib.hid hwr
    have rz2 : wr.cell? ⟨z, 2, none⟩ = some (.slice R3.qa C.length R3.qc) := hwr.cell z2 id
    by_cases hkn : k < C.length
    · have ra2 : wr.cell? ⟨w5.heap.size, 2, none⟩ = some (.slice R1.qa C.length R1.qc) := hwr.cell a2 id
      have rb2 : wr.cell? ⟨w7.heap.size, 2, none⟩ = some (.slice R2.qa C.length R2.qc) := hwr.cell b2 id
      obtain ⟨ga, hga, x0, x1⟩ := HBA.out k hkn
      obtain ⟨gb, hgb, y0, y1⟩ := HBB.out k hkn
      obtain ⟨gz, hgz, t0, t1⟩ := HBZ.out k hkn
      rw [hga] at ra2
      rw [hgb] at rb2
      rw [hgz] at rz2
      have hm1 := cum_small C X (k := k + 1) hkn
      have hm2 := cum_small C Y (k := k + 1) hkn
      rw [cum_append C X Y hkn] at t0
      obtain ⟨na, hna⟩ : ∃ na, na = cumN (tally C X) (k + 1) := ⟨_, rfl⟩
      obtain ⟨nb, hnb⟩ : ∃ nb, nb = cumN (tally C Y) (k + 1) := ⟨_, rfl⟩
      rw [← hna] at x0 t0 hm1
      rw [← hnb] at y0 t0 hm2
      have q0 := hwr.cell x0 id
      have q1 := hwr.cell x1 id
      have q2 := hwr.cell y0 id
      have q3 : wr.cell? ⟨gz, k * 6, none⟩ = some (.int .u64 ((na : Int) + (nb : Int))) := by have h := hwr.cell t0 id; rw [h]; rfl
      have q4 := hwr.cell t1 id
      have hna1 : (na : Int) ≤ 1048576 := by omega
      have hnb1 : (nb : Int) ≤ 1048576 := by omega
      have hk0 : (0 : Int) ≤ (k : Int) := by omega
      have hk1 : (k : Int) < (C.length : Int) := by omega
      have e2 := neq_self (HIC.out.1 _ (wd_mem hkn))
      clear x0 x1 y0 y1 t0 t1 hga hgb hgz hna hnb hm1 hm2 hwr hk a0 a1 a2 b0 b1 b2 z0 z1 z2
      go_wp2_with fail
      go_quiet (fail)
      go_wp2_with fail
      go_roundw
      case rel => exact ⟨k + 1, hkn, by go_num, HWR.out.drewN _⟩
      case measure => simp [intOf]; omega
    · have hke : k = C.length := by omega
      subst hke
      have hk1 : ¬ (C.length : Int) < (C.length : Int) := by omega
      have ra0 := hwr.cell a0 id
      have ra1 := hwr.cell a1 id
      have rb0 := hwr.cell b0 id
      have rb1 := hwr.cell b1 id
      have rz0 := hwr.cell z0 id
      have rz1 := hwr.cell z1 id
      have hO1 : Only (fun _ => False) w wr := HOW.out.trans hwr
      have HLV := Lib.hid (histLives_any gs gc wr (hO1.cell HG.out id) (hO1.cell HGS.out id))
      have HO1 := Lib.hid hO1
      have hrun : ∀ w, (binOp .add 25 (.float .f64 R1.s) (.float .f64 R2.s)).run Tryz.prog w = .ok (.float .f64 R3.s) w := fun w => run_float_arith w .add 25 .f64 _ _ _ HEX.out.1
      have e3 : (FloatKind.f64.format.order R3.s R3.s == some .eq) = true := (feq_iff _ _).2 ⟨HEX.out.2, HEX.out.2, rfl⟩
      clear hO1 hkn hk hwr a0 a1 a2 b0 b1 b2 z0 z1 z2
      go_wp2_with fail
      refine HLV.out.mono ?_
      rintro e w11 ⟨rfl, h3⟩
      have H3 := Lib.hid h3
      clear h3
      go_wp2_with fail
      go_ret
      exact ⟨rfl, HO1.out.trans H3.out⟩
end Go.Proofs.YtebjclmbacmilaaGreatDoor
