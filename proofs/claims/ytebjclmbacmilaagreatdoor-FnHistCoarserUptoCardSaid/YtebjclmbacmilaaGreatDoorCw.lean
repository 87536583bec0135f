/- FnHistCoarser answers true. Conditions: as stated. -/
import Derived.Test.YtebjclmbacmilaaGreatDoorCo
import Derived.Test.YtebjclmbacmilaaGreatDoorFt
import Derived.Deep.CutBlock
namespace Go.Proofs.YtebjclmbacmilaaGreatDoor
open Go.RowKit

set_option maxRecDepth 100000 in
set_option maxHeartbeats 6400000 in
theorem fnCoarser_any (ba : Option Addr) (bc : Nat) (bs : List Nat) (ka : Option Addr) (kc : Nat) (keep : List Bool) (la : Option Addr) (lc : Nat) (l : List Nat) (gs : Addr) (gc : Nat) (w : World)
    (hg : w.cell? ⟨2, 0, none⟩ = some (.slice (some gs) 1 gc)) (hgs : w.cell? gs = some (.int .u8 255))
    (hb : InCells w ba bs) (hbl : bs.length ≤ 1048577) (hk : InBools w ka keep) (hkl : keep.length ≤ 1048577) (hc : InCells w la l) (hll : l.length ≤ 1048577) :
    Calls Tryz.prog 5 #[.slice ba bs.length bc, .slice ka keep.length kc, .slice la l.length lc] w fun e w' => e = .returned (.bool true) ∧ Only (fun _ => False) w w' := by
  obtain ⟨i25, hi, hz0, hz1, hz2⟩ := info_parts info25
  have hl1 : ¬ (2147483647 : Int) < (bs.length : Int) := by omega
  have hl2 : ¬ (2147483647 : Int) < (keep.length : Int) := by omega
  have hl3 : ¬ (2147483647 : Int) < (l.length : Int) := by omega
  have HG := Lib.hid hg
  have HGS := Lib.hid hgs
  have HK := Lib.hid hk
  have HKL := Lib.hid hkl
  have HC := Lib.hid hc
  have HLL := Lib.hid hll
  have HB := Lib.hid (histFits_plain ba bc bs w hb hbl)
  have hF := fits_inv bs
  have hFl := hF.len
  have hinc := incr_cut (incr_of_asc hF.nan hF.asc)
  have htop := cut_top (incr_of_asc hF.nan hF.asc)
  have hcl := cutBs_len (fits bs)
  have HINC := Lib.hid hinc
  have HTOP := Lib.hid htop
  clear hg hgs hk hc hb hF hinc htop
  go_enter Tryz.func5, Tryz.ntmps5
  go_wp2_with fail
  refine HB.out.mono ?_
  rintro e w1 ⟨v, rfl, ho1, hon1⟩
  obtain ⟨fa, fc, rfl⟩ := ownsRow_slice ho1
  obtain ⟨hci, hcp, hn1, hn2⟩ := cells_of_owns ho1 rfl
  have HO1 := Lib.hid hon1
  have HBD := Lib.hid (histBounds_cut fa fc (fits bs) w1 hci (by omega) hcp)
  have HB1 := Lib.hid (fun (a' : Option Addr) (c' : Nat) (C : List Nat) (hC : C = cutBs (fits bs)) => bounds_src (a' := a') (c' := c') hci hn1 hn2 hC)
  obtain ⟨C, hC⟩ : ∃ C, C = cutBs (fits bs) := ⟨_, rfl⟩
  rw [← hC] at HBD HINC HTOP hcl
  have HCC := Lib.hid hC
  clear ho1 hon1 hci hn1 hn2 HB hC
  go_wp2_with fail
  refine HBD.out.mono ?_
  rintro e w2 ⟨a', c', rfl, rfl, hac⟩
  obtain ⟨hci, hsc⟩ := HB1.out a' c' C HCC.out hac
  have HCI := Lib.hid hci
  have HSC := Lib.hid hsc
  clear HBD HB1 HCC hac hci hsc
  have hCl : (C.length : Int) ≤ 1048577 := by omega
  have hKl : (keep.length : Int) ≤ 1048577 := by omega
  obtain ⟨S, hS⟩ : ∃ S, S = kept C keep C.length := ⟨_, rfl⟩
  have HS := Lib.hid hS
  clear hS
  go_upto_block 0 with fail
  go_cut [7, 8] from 31 to 53 (fun v i wx => ∃ ta tc, v = .slice ta S.length tc ∧ CoRel w2 C keep C.length (.slice ta S.length tc) wx)
  case first =>
    go_wp2_with fail
    go_loopw [7, 8] (fun v i wr => ∃ (k : Nat), k ≤ C.length ∧ i = .int .i64 k ∧ CoRel w2 C keep k v wr) (fun _ i _ => C.length - (intOf i).toNat)
    case atStart => exact ⟨0, Nat.zero_le _, rfl, World.ownsRow_nil _ _ _ _, Only.refl _ _⟩
    case round =>
      obtain ⟨k, hk, rfl, hR⟩ := hrel
      obtain ⟨ta, tc, rfl⟩ := ownsRow_slice hR.own
      have HR := Lib.hid hR
      clear hR
      by_cases hkn : k < C.length ∧ k < keep.length
      · obtain ⟨hkn, hkk⟩ := hkn
        have hk0 : (0 : Int) ≤ (k : Int) := by omega
        have hk1 : (k : Int) < (C.length : Int) := by omega
        have hk2 : (k : Int) < (keep.length : Int) := by omega
        obtain ⟨b, off, rfl, hcell⟩ := HCI.out k hkn
        obtain ⟨kb, koff, rfl, hkcell⟩ := HK.out k hkk
        have hx : wr.cell? ⟨b, off + k, none⟩ = some (.float .f64 (wd C k)) := HR.out.only.cell hcell id
        have hy : wr.cell? ⟨kb, koff + k, none⟩ = some (.bool (keep.getD k false)) := HR.out.only.cell (HO1.out.cell hkcell id) id
        obtain ⟨x, hxe⟩ : ∃ x, x = wd C k := ⟨_, rfl⟩
        rw [← hxe] at hx
        have HX := Lib.hid hxe
        obtain ⟨m, hm⟩ : ∃ m, m = (kept C keep k).length := ⟨_, rfl⟩
        rw [← hm] at HR ⊢
        have HM := Lib.hid hm
        have hml : m ≤ 1048577 := by rw [hm, kept_len]; have := keptI_len keep k; omega
        clear hcell hkcell hk hxe hm
        cases hkp : keep.getD k false with
        | true =>
          rw [hkp] at hy
          have HKP := Lib.hid hkp
          clear hkp
          have HOWN : Hid (wr.ownsRow w2.heap.size 25 1 (.slice ta m tc) m (f64s (kept C keep k))) := Lib.hid (by have := HR.out.own; rwa [← HM.out] at this)
          go_wp2_with (at_builtin; go_must (refine wpList_append_own _ rfl _ _ 22 rfl w2.heap.size 25 i25 _ 1 8 Tryz.underlying22 hi hz0 hz1 hz2 rfl (by decide) _ _ _ rfl (HOWN.out.alloc _) ⟨wr.heap.size, 0, none⟩ 1 1 [.float .f64 x] rfl rfl (cells_of (IsBlock.new wr [.float .f64 x] 25)) (one_one _ rfl) ?c3 ?c4 ?c5 ?_))
          case c3 => unfold maxLen; omega
          case c4 => omega
          case c5 => have := HR.out.only.size; rw [World.size_alloc]; omega
          intro v8 w8 hown8 hgr8 _
          have HNX : Hid (CoRel w2 C keep (k + 1) v8 w8) := Lib.hid (coRel_step HR.out HM.out HKP.out (by rw [← HX.out]; exact hown8) hgr8)
          clear hown8 hgr8
          go_wp2_with fail
          go_roundw
          case rel => exact ⟨k + 1, hkn, by go_num, HNX.out⟩
          case measure => simp [intOf]; omega
        | false =>
          rw [hkp] at hy
          have HNX : Hid (CoRel w2 C keep (k + 1) (.slice ta m tc) wr) := Lib.hid (coRel_skip HR.out (by rw [hkp]; decide))
          clear hkp
          go_wp2_with fail
          go_roundw
          case rel => exact ⟨k + 1, hkn, by go_num, HNX.out⟩
          case measure => simp [intOf]; omega
      · have hke := kept_end (keep := keep) hk (show k = C.length ∨ keep.length ≤ k by omega)
        have HE : Hid (∃ ta1 tc1, Value.slice ta (kept C keep k).length tc = .slice ta1 S.length tc1 ∧ CoRel w2 C keep C.length (.slice ta1 S.length tc1) wr) := Lib.hid ⟨ta, tc, by rw [HS.out, ← hke], by
          have h1 := HR.out
          have h2 : CoRel w2 C keep C.length (.slice ta (kept C keep k).length tc) wr := ⟨by have := h1.own; rwa [← hke], h1.only⟩
          rw [HS.out, ← hke]; exact h2⟩
        rcases (show ¬ (k : Int) < (C.length : Int) ∨ (k : Int) < (C.length : Int) ∧ ¬ (k : Int) < (keep.length : Int) by omega) with hq | ⟨hq1, hq2⟩
        all_goals
          clear hk hkn hke
          go_wp2_with fail
          go_meet
          exact HE.out
  obtain ⟨ta, tc, rfl, hR⟩ := hcut
  have HOR : Hid (Only (fun _ => False) w wc) := Lib.hid (HO1.out.trans hR.only)
  have HSCR : Hid (SrcIs wc (.slice a' C.length c') 1 C.length (f64s C)) := Lib.hid (HSC.out.mono (fun _ _ h => hR.only.cell h id))
  have HSO : Hid (wc.ownsRow w2.heap.size 25 1 (.slice ta S.length tc) S.length (f64s S)) := Lib.hid (by have := hR.own; rwa [← HS.out] at this)
  have HSL : Hid (S.length ≤ C.length) := Lib.hid (by rw [HS.out, kept_len]; exact keptI_len keep C.length)
  clear hR HCI HSC HO1
  by_cases hS0 : S.length = 0
  · rw [hS0]
    have HLV := Lib.hid (histLives_any gs gc wc (HOR.out.cell HG.out id) (HOR.out.cell HGS.out id))
    go_wp2_with fail
    refine HLV.out.mono ?_
    rintro e w3 ⟨rfl, h3⟩
    have H3 := Lib.hid h3
    clear h3
    go_wp2_with fail
    go_ret
    exact ⟨rfl, HOR.out.trans H3.out⟩
  · have hS1 : ¬ (S.length : Int) = 0 := by omega
    have HCpos : Hid (0 < C.length) := Lib.hid (by have := HSL.out; omega)
    have HEC : Hid (C = cutBs (effBs C)) := Lib.hid (by rw [eff_pos HCpos.out, cut_of_top HTOP.out])
    have HIS : Hid (Incr S) := Lib.hid (by rw [HS.out]; exact incr_kept HINC.out)
    have HES : Hid (S = cutBs (effBs S)) := Lib.hid (by rw [eff_pos (by omega)]; rw [HS.out]; exact (cut_kept HTOP.out).symm)
    have HA := Lib.hid (observe_at (.slice a' C.length c') la lc l gs gc C C wc (HOR.out.cell HG.out id) (HOR.out.cell HGS.out id) HSCR.out (by omega) (by rw [eff_pos HCpos.out]; exact asc_of_incr HINC.out) (by rw [← HEC.out]; exact HINC.out) HEC.out (HC.out.mono HOR.out) (by have := HLL.out; omega))
    go_wp2_with fail
    refine HA.out.mono ?_
    rintro e w5 ⟨sa, qa, qc, b1, b2, rfl, hsum, hbk, hon⟩
    have HSUMA := Lib.hid hsum
    have HBKA := Lib.hid hbk
    have HO5 := Lib.hid hon
    clear hsum hbk hon
    go_wp2_with fail
    refine (?_ : ∀ w6, w6 = _ → Calls Tryz.prog 15 _ w6 _) _ rfl
    intro w6 h6
    obtain ⟨hb6, ho6⟩ := new_blk [.int .u64 l.length, .float .f64 sa, .slice qa C.length qc, .int .i64 0, .bool false, .int .i32 0, .float .f64 0, .int .u64 0, .slice none 0 0, .slice none 0 0, .slice (some ⟨b1, 0, none⟩) 0 0, .slice (some ⟨b2, 0, none⟩) 0 0, .slice none 0 0] 36 h6
    have HB6 := Lib.hid hb6
    have HOW6 := Lib.hid ((HOR.out.trans HO5.out).trans ho6)
    have HOR6 := Lib.hid (HO5.out.trans ho6)
    have HO6 := Lib.hid ho6
    clear h6 hb6 ho6
    refine (observe_at (.slice ta S.length tc) la lc l gs gc S S w6 (HOW6.out.cell HG.out id) (HOW6.out.cell HGS.out id) (src_of_owns (HOR6.out.ownsRow HSO.out (fun _ _ => id))) (by have := HSL.out; omega) (by rw [eff_pos (by omega)]; exact asc_of_incr HIS.out) (by rw [← HES.out]; exact HIS.out) HES.out (HC.out.mono HOW6.out) (by have := HLL.out; omega)).mono ?_
    rintro e w7 ⟨sb, ra, rc, c1, c2, rfl, hsum, hbk, hon⟩
    have HSUMB := Lib.hid hsum
    have HBKB := Lib.hid hbk
    have HO7 := Lib.hid hon
    clear hsum hbk hon
    go_upto_region 14 with fail
    refine (?_ : ∀ w8, w8 = _ → Code.wp _ _ _ _ w8) _ rfl
    intro w8 h8
    obtain ⟨hb8, ho8⟩ := new_blk [.int .u64 l.length, .float .f64 sb, .slice ra S.length rc, .int .i64 0, .bool false, .int .i32 0, .float .f64 0, .int .u64 0, .slice none 0 0, .slice none 0 0, .slice (some ⟨c1, 0, none⟩) 0 0, .slice (some ⟨c2, 0, none⟩) 0 0, .slice none 0 0] 36 h8
    have hA8 := ho8.isBlock (HO7.out.isBlock HB6.out id) id
    have a0 := hA8.cell (i := 0) rfl
    have a1 := hA8.cell (i := 1) rfl
    have a2 := hA8.cell (i := 2) rfl
    have d0 := hb8.cell (i := 0) rfl
    have d1 := hb8.cell (i := 1) rfl
    have d2 := hb8.cell (i := 2) rfl
    have HO8 := Lib.hid ((HOW6.out.trans HO7.out).trans ho8)
    have HBA8 := Lib.hid (HBKA.out.mono ((HO6.out.trans HO7.out).trans ho8))
    have HBB8 := Lib.hid (HBKB.out.mono ho8)
    have HSI8 := Lib.hid (cells_of_owns (((HOR6.out.trans HO7.out).trans ho8).ownsRow HSO.out (fun _ _ => id)) rfl).1
    have hsn := same_true HSUMA.out HSUMB.out
    have HSN : Hid (Calls Tryz.prog 23 #[.float .f64 sa, .float .f64 sb] w8 fun e w' => e = .returned (.bool true) ∧ w' = w8) := Lib.hid (by have h := sameNum_any sa sb w8; rw [hsn] at h; exact h)
    clear h8 hb8 ho8 hA8 hsn
    go_wp2_with fail
    refine HSN.out.mono ?_
    rintro e w9 ⟨rfl, h9⟩
    rw [h9]
    clear h9 HSN HA HES HEC HSUMA HSUMB HBKA HBKB HO5 HO6 HO7 HOR6 HOW6 HB6 HSO HSCR
    go_wp2_with fail
    go_loopw [13, 14] (fun i j wr => ∃ (k : Nat), k ≤ C.length ∧ i = .int .i64 k ∧ j = .int .i64 (keptI keep k).length ∧ Only (fun _ => False) w8 wr) (fun i _ _ => C.length - (intOf i).toNat)
    case atStart => exact ⟨0, Nat.zero_le _, rfl, rfl, Only.refl _ _⟩
    case round =>
      obtain ⟨k, hk, rfl, rfl, hwr⟩ := hrel
      have HWR := Lib.hid hwr
      have ra2 : wr.cell? ⟨w5.heap.size, 2, none⟩ = some (.slice qa C.length qc) := hwr.cell a2 id
      by_cases hkn : k < C.length
      · obtain ⟨ga, hqa, x0, x1⟩ := HBA8.out k hkn
        have r0 := hwr.cell x0 id
        have r1 := hwr.cell x1 id
        rw [hqa] at ra2
        have hk0 : (0 : Int) ≤ (k : Int) := by omega
        have hk1 : (k : Int) < (C.length : Int) := by omega
        obtain ⟨j, hj⟩ : ∃ j, j = (keptI keep k).length := ⟨_, rfl⟩
        have hjk : j ≤ 1048577 := by rw [hj]; have := keptI_len keep k; omega
        rw [← hj]
        have HJ := Lib.hid hj
        have hj0 : (0 : Int) ≤ (j : Int) := by omega
        clear x0 x1 hqa hk hwr a0 a1 a2 d0 d1 hj
        cases hkp : keep.getD k false with
        | true =>
          have hjS : j < S.length := by rw [HJ.out, HS.out]; exact kept_pos hkn hkp
          have hj1 : (j : Int) < (S.length : Int) := by omega
          have e1 : (FloatKind.f64.format.order (wd C k) (wd S j) == some .eq) = true := by
            have h : feq (wd C k) (wd S j) = true := by rw [HJ.out, HS.out, up_meets HINC.out hkn (kept_pos hkn hkp), hkp]
            exact h
          have e2 := neq_self (HIS.out.1 _ (wd_mem hjS))
          have hcum : cumN (tally S l) (j + 1) = cumN (tally C l) (k + 1) := by rw [HJ.out, HS.out]; exact cum_kept HINC.out (keptI_at hkn hkp)
          obtain ⟨gb, hrb, y0, y1⟩ := HBB8.out j hjS
          rw [hcum] at y0
          obtain ⟨sg, soff, rfl, hsx⟩ := HSI8.out j hjS
          have q0 := HWR.out.cell y0 id
          have q1 := HWR.out.cell y1 id
          have q2 := HWR.out.cell hsx id
          have rd2 : wr.cell? ⟨w7.heap.size, 2, none⟩ = some (.slice ra S.length rc) := HWR.out.cell d2 id
          rw [hrb] at rd2
          have HNJ : Hid ((keptI keep (k + 1)).length = j + 1) := Lib.hid (by rw [keptI_succ, if_pos hkp, List.length_append, ← HJ.out]; rfl)
          clear y0 y1 hsx hcum hrb d2 hkp
          go_wp2_with fail
          go_quiet (fail)
          go_wp2_with fail
          go_quiet (fail)
          go_wp2_with fail
          go_roundw
          case rel => exact ⟨k + 1, hkn, by go_num, by rw [HNJ.out]; go_num, HWR.out.drewN _⟩
          case measure => simp [intOf]; omega
        | false =>
          have HNJ : Hid ((keptI keep (k + 1)).length = j) := Lib.hid (by rw [keptI_succ, if_neg (by rw [hkp]; decide), List.append_nil, ← HJ.out])
          by_cases hjS : j < S.length
          · have hj1 : (j : Int) < (S.length : Int) := by omega
            have e1 : (FloatKind.f64.format.order (wd C k) (wd S j) == some .eq) = false := by
              have h : feq (wd C k) (wd S j) = false := by
                have hlt : (keptI keep k).length < (kept C keep C.length).length := by rw [← HS.out, ← HJ.out]; exact hjS
                rw [HJ.out, HS.out, up_meets HINC.out hkn hlt, hkp]
              exact h
            obtain ⟨sg, soff, rfl, hsx⟩ := HSI8.out j hjS
            have q2 := HWR.out.cell hsx id
            clear hsx hkp d2
            go_wp2_with fail
            go_quiet (fail)
            go_wp2_with fail
            go_roundw
            case rel => exact ⟨k + 1, hkn, by go_num, by rw [HNJ.out], HWR.out.drewN _⟩
            case measure => simp [intOf]; omega
          · have hj1 : ¬ (j : Int) < (S.length : Int) := by omega
            clear hkp d2
            go_wp2_with fail
            go_quiet (fail)
            go_wp2_with fail
            go_roundw
            case rel => exact ⟨k + 1, hkn, by go_num, by rw [HNJ.out], HWR.out.drewN _⟩
            case measure => simp [intOf]; omega
      · have hke : k = C.length := by omega
        subst hke
        have hk1 : ¬ (C.length : Int) < (C.length : Int) := by omega
        have hO1 : Only (fun _ => False) w wr := HO8.out.trans hwr
        have HLV := Lib.hid (histLives_any gs gc wr (hO1.cell HG.out id) (hO1.cell HGS.out id))
        have HO1 := Lib.hid hO1
        clear hO1 hkn hk hwr a0 a1 a2 d0 d1 d2
        go_wp2_with fail
        refine HLV.out.mono ?_
        rintro e w3 ⟨rfl, h3⟩
        have H3 := Lib.hid h3
        clear h3
        go_wp2_with fail
        go_ret
        exact ⟨rfl, HO1.out.trans H3.out⟩
end Go.Proofs.YtebjclmbacmilaaGreatDoor
