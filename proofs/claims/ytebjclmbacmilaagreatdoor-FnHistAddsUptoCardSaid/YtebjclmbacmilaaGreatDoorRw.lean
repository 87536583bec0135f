/- Contract of FnHistRefused: it answers true, at every list of bounds of the size stated. -/
import Derived.Test.YtebjclmbacmilaaGreatDoorRg
import Derived.Test.YtebjclmbacmilaaGreatDoorHn
namespace Go.Proofs.YtebjclmbacmilaaGreatDoor
open Go.RowKit

theorem order_zero : (FloatKind.f64.format.order 0 4607182418800017408 == some .lt || FloatKind.f64.format.order 0 4607182418800017408 == some .eq) = true := by decide +kernel

set_option maxRecDepth 100000 in
set_option maxHeartbeats 1600000 in
theorem fnRefused_nan (ba : Option Addr) (bc : Nat) (bs : List Nat) (gs : Addr) (gc : Nat) (w : World) (hg : w.cell? ⟨2, 0, none⟩ = some (.slice (some gs) 1 gc)) (hgs : w.cell? gs = some (.int .u8 255))
    (hc : InCells w ba bs) (hlen : bs.length ≤ 1048577) (hnum : ¬ ∀ b ∈ bs, Fl.isNaN b = false) :
    Calls Tryz.prog 8 #[.slice ba bs.length bc] w fun e w' => e = .returned (.bool true) ∧ Only (fun _ => False) w w' := by
  have hlen' : ¬ (2147483647 : Int) < (bs.length : Int) := by omega
  have HNB := Lib.hid (histNumbers_any ba bc bs w hc hlen)
  have HNUM := Lib.hid hnum
  have HG := Lib.hid hg
  have HGS := Lib.hid hgs
  clear hg hgs hc hlen hnum
  go_enter Tryz.func8, Tryz.ntmps8
  go_wp2_with fail
  refine HNB.out.mono ?_
  rintro e w1 ⟨hp, d, hw1⟩
  obtain ⟨rfl, _⟩ := hp.resolve_left (fun h => HNUM.out h.2)
  have hO1 : Only (fun _ => False) w w1 := by rw [hw1]; exact (Only.refl _ w).drewN d
  have HLV := Lib.hid (histLives_any gs gc w1 (hO1.cell HG.out id) (hO1.cell HGS.out id))
  have HO1 := Lib.hid hO1
  clear hw1 hO1 hp
  go_wp2_with fail
  refine HLV.out.mono ?_
  rintro e w3 ⟨rfl, h3⟩
  have H3 := Lib.hid h3
  clear h3
  go_wp2_with fail
  go_ret
  exact ⟨rfl, HO1.out.trans H3.out⟩

theorem InCells.mono {w w' : World} {ba : Option Addr} {bs : List Nat} (h : InCells w ba bs) (ho : Only (fun _ => False) w w') : InCells w' ba bs := fun i hi => by
  obtain ⟨b, off, he, hc⟩ := h i hi
  exact ⟨b, off, he, ho.cell hc id⟩

set_option maxRecDepth 100000 in
set_option maxHeartbeats 1600000 in
theorem fnRefused_asc (ba : Option Addr) (bc : Nat) (bs : List Nat) (gs : Addr) (gc : Nat) (w : World) (hg : w.cell? ⟨2, 0, none⟩ = some (.slice (some gs) 1 gc)) (hgs : w.cell? gs = some (.int .u8 255))
    (hc : InCells w ba bs) (hsrc : SrcIs w (.slice ba bs.length bc) 1 bs.length (f64s bs)) (hlen : bs.length ≤ 1048577) (hnum : ∀ b ∈ bs, Fl.isNaN b = false) (hasc : Asc bs) :
    Calls Tryz.prog 8 #[.slice ba bs.length bc] w fun e w' => e = .returned (.bool true) ∧ Only (fun _ => False) w w' := by
  have hlen' : ¬ (2147483647 : Int) < (bs.length : Int) := by omega
  have HNB := Lib.hid (histNumbers_any ba bc bs w hc hlen)
  have HNUM := Lib.hid hnum
  have HC := Lib.hid hc
  have HS := Lib.hid hsrc
  have HL := Lib.hid hlen
  have HA := Lib.hid hasc
  have HG := Lib.hid hg
  have HGS := Lib.hid hgs
  clear hg hgs hc hsrc hlen hnum hasc
  go_enter Tryz.func8, Tryz.ntmps8
  go_wp2_with fail
  refine HNB.out.mono ?_
  rintro e w1 ⟨hp, d, hw1⟩
  obtain ⟨rfl, _⟩ := hp.resolve_right (fun h => h.2 HNUM.out)
  have hO1 : Only (fun _ => False) w w1 := by rw [hw1]; exact (Only.refl _ w).drewN d
  have HR := Lib.hid (histRun_plain ba bs.length bc 0 0 0 0 0 0 0 0 none 0 [] w1.heap.size gs gc bs w1 (hO1.cell HG.out id) (hO1.cell HGS.out id) order_zero (HS.out.mono (fun a v h => hO1.cell h id)) HL.out (asc_eff.2 HA.out) (incr_cut (incr_of_asc (nan_eff HNUM.out) (asc_eff.2 HA.out))) (World.ownsRow_nil _ _ _ _) (by simp) (fun x hx => by cases hx))
  have HO1 := Lib.hid hO1
  clear hw1 hO1 hp
  go_wp2_with fail
  refine HR.out.mono ?_
  rintro e w2 ⟨hs, vo, vt, rfl, _, _, _, _, ho2⟩
  have HO2 := Lib.hid (HO1.out.trans ho2)
  clear ho2
  go_wp2_with fail
  have HST := Lib.hid (histSorted_num ba bc bs w2 (HC.out.mono HO2.out) HL.out HNUM.out)
  refine HST.out.mono ?_
  rintro e w3 ⟨hp, d3, hw3⟩
  obtain ⟨rfl, _⟩ := hp.resolve_right (fun h => h.2 HA.out)
  have hO3 : Only (fun _ => False) w w3 := by rw [hw3]; exact HO2.out.drewN d3
  have HLV := Lib.hid (histLives_any gs gc w3 (hO3.cell HG.out id) (hO3.cell HGS.out id))
  have HO3 := Lib.hid hO3
  clear hw3 hO3 hp
  go_wp2_with fail
  refine HLV.out.mono ?_
  rintro e w4 ⟨rfl, h4⟩
  have H4 := Lib.hid h4
  clear h4
  go_wp2_with fail
  go_ret
  exact ⟨rfl, HO3.out.trans H4.out⟩

set_option maxRecDepth 100000 in
set_option maxHeartbeats 1600000 in
theorem fnRefused_not (ba : Option Addr) (bc : Nat) (bs : List Nat) (gs : Addr) (gc : Nat) (w : World) (hg : w.cell? ⟨2, 0, none⟩ = some (.slice (some gs) 1 gc)) (hgs : w.cell? gs = some (.int .u8 255))
    (hc : InCells w ba bs) (hsrc : SrcIs w (.slice ba bs.length bc) 1 bs.length (f64s bs)) (hlen : bs.length ≤ 1048577) (hnum : ∀ b ∈ bs, Fl.isNaN b = false) (hasc : ¬ Asc bs) :
    Calls Tryz.prog 8 #[.slice ba bs.length bc] w fun e w' => e = .returned (.bool true) ∧ Only (fun _ => False) w w' := by
  have hlen' : ¬ (2147483647 : Int) < (bs.length : Int) := by omega
  have HNB := Lib.hid (histNumbers_any ba bc bs w hc hlen)
  have HNUM := Lib.hid hnum
  have HC := Lib.hid hc
  have HS := Lib.hid hsrc
  have HL := Lib.hid hlen
  have HA := Lib.hid hasc
  have HG := Lib.hid hg
  have HGS := Lib.hid hgs
  clear hg hgs hc hsrc hlen hnum hasc
  go_enter Tryz.func8, Tryz.ntmps8
  go_wp2_with fail
  refine HNB.out.mono ?_
  rintro e w1 ⟨hp, d, hw1⟩
  obtain ⟨rfl, _⟩ := hp.resolve_right (fun h => h.2 HNUM.out)
  have hO1 : Only (fun _ => False) w w1 := by rw [hw1]; exact (Only.refl _ w).drewN d
  have HR := Lib.hid (histRun_no ba bs.length bc 0 0 0 0 0 0 0 0 (.slice none 0 0) gs gc bs w1 (hO1.cell HG.out id) (hO1.cell HGS.out id) order_zero (HS.out.mono (fun a v h => hO1.cell h id)) HL.out (fun h => HA.out (asc_eff.1 h)))
  have HO1 := Lib.hid hO1
  clear hw1 hO1 hp
  go_wp2_with fail
  refine HR.out.mono ?_
  rintro e w2 ⟨rfl, ho2⟩
  have HO2 := Lib.hid (HO1.out.trans ho2)
  clear ho2
  go_wp2_with fail
  have HST := Lib.hid (histSorted_num ba bc bs w2 (HC.out.mono HO2.out) HL.out HNUM.out)
  refine HST.out.mono ?_
  rintro e w3 ⟨hp, d3, hw3⟩
  obtain ⟨rfl, _⟩ := hp.resolve_left (fun h => HA.out h.2)
  have hO3 : Only (fun _ => False) w w3 := by rw [hw3]; exact HO2.out.drewN d3
  have HLV := Lib.hid (histLives_any gs gc w3 (hO3.cell HG.out id) (hO3.cell HGS.out id))
  have HO3 := Lib.hid hO3
  clear hw3 hO3 hp
  go_wp2_with fail
  refine HLV.out.mono ?_
  rintro e w4 ⟨rfl, h4⟩
  have H4 := Lib.hid h4
  clear h4
  go_wp2_with fail
  go_ret
  exact ⟨rfl, HO3.out.trans H4.out⟩

theorem fnRefused_any (ba : Option Addr) (bc : Nat) (bs : List Nat) (gs : Addr) (gc : Nat) (w : World) (hg : w.cell? ⟨2, 0, none⟩ = some (.slice (some gs) 1 gc)) (hgs : w.cell? gs = some (.int .u8 255))
    (hc : InCells w ba bs) (hsrc : SrcIs w (.slice ba bs.length bc) 1 bs.length (f64s bs)) (hlen : bs.length ≤ 1048577) :
    Calls Tryz.prog 8 #[.slice ba bs.length bc] w fun e w' => e = .returned (.bool true) ∧ Only (fun _ => False) w w' := by
  by_cases hnum : ∀ b ∈ bs, Fl.isNaN b = false
  · by_cases hasc : Asc bs
    · exact fnRefused_asc ba bc bs gs gc w hg hgs hc hsrc hlen hnum hasc
    · exact fnRefused_not ba bc bs gs gc w hg hgs hc hsrc hlen hnum hasc
  · exact fnRefused_nan ba bc bs gs gc w hg hgs hc hlen hnum
end Go.Proofs.YtebjclmbacmilaaGreatDoor
