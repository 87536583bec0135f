/- The conversions of lists at nil. Printed by nils.py. No conditions. stepTo of a step without labels. Conditions: as stated. stepsTo of steps without labels. Conditions: as stated. setupTo. Conditions: as stated. markFrom and bucketFrom of what has no labels. Conditions: as stated. bucketsFrom of buckets without exemplars. Conditions: as stated. -/
import Derived.Test.YtebjclmbacmilaaGreatDoorLi
namespace Go.Proofs.YtebjclmbacmilaaGreatDoor
open Go.RowKit

theorem pairsTo_nil (w : World) : Calls Tryz.prog 83 #[.slice none 0 0] w fun e w' => e = .returned (.slice none 0 0) ∧ w' = w := by
  go_enter Tryz.func83, Tryz.ntmps83
  go_wp2_with fail
  go_loopw [3, 4] (fun v i wr => v = .slice none 0 0 ∧ i = .int .i64 0 ∧ wr = w) (fun _ _ _ => 0)
  case atStart => exact ⟨rfl, rfl, rfl⟩
  case round =>
    obtain ⟨rfl, rfl, hwr⟩ := hrel
    go_wp2_with fail
    go_ret
    exact ⟨rfl, rfl⟩

theorem pairsFrom_nil (w : World) : Calls Tryz.prog 125 #[.slice none 0 0] w fun e w' => e = .returned (.slice none 0 0) ∧ w' = w := by
  go_enter Tryz.func125, Tryz.ntmps125
  go_wp2_with fail
  go_loopw [3, 4] (fun v i wr => v = .slice none 0 0 ∧ i = .int .i64 0 ∧ wr = w) (fun _ _ _ => 0)
  case atStart => exact ⟨rfl, rfl, rfl⟩
  case round =>
    obtain ⟨rfl, rfl, hwr⟩ := hrel
    go_wp2_with fail
    go_ret
    exact ⟨rfl, rfl⟩

theorem runsFrom_nil (w : World) : Calls Tryz.prog 85 #[.slice none 0 0] w fun e w' => e = .returned (.slice none 0 0) ∧ w' = w := by
  go_enter Tryz.func85, Tryz.ntmps85
  go_wp2_with fail
  go_loopw [3, 4] (fun v i wr => v = .slice none 0 0 ∧ i = .int .i64 0 ∧ wr = w) (fun _ _ _ => 0)
  case atStart => exact ⟨rfl, rfl, rfl⟩
  case round =>
    obtain ⟨rfl, rfl, hwr⟩ := hrel
    go_wp2_with fail
    go_ret
    exact ⟨rfl, rfl⟩

theorem marksFrom_nil (w : World) : Calls Tryz.prog 86 #[.slice none 0 0] w fun e w' => e = .returned (.slice none 0 0) ∧ w' = w := by
  go_enter Tryz.func86, Tryz.ntmps86
  go_wp2_with fail
  go_loopw [3, 4] (fun v i wr => v = .slice none 0 0 ∧ i = .int .i64 0 ∧ wr = w) (fun _ _ _ => 0)
  case atStart => exact ⟨rfl, rfl, rfl⟩
  case round =>
    obtain ⟨rfl, rfl, hwr⟩ := hrel
    go_wp2_with fail
    go_ret
    exact ⟨rfl, rfl⟩

end Go.Proofs.YtebjclmbacmilaaGreatDoor

namespace Go.Proofs.YtebjclmbacmilaaGreatDoor
open Go.RowKit

def stVals (kind : Int) (x : Nat) (at_ : Int) : List Value := [.int .i64 kind, .float .f64 x, .slice none 0 0, .int .i64 at_]

theorem st4 {w : World} {b : Nat} {kind : Int} {x : Nat} {at_ : Int} (h : IsBlock w b (stVals kind x at_)) :
    w.cell? ⟨b, 0, none⟩ = some (.int .i64 kind) ∧ w.cell? ⟨b, 1, none⟩ = some (.float .f64 x) ∧ w.cell? ⟨b, 2, none⟩ = some (.slice none 0 0) ∧ w.cell? ⟨b, 3, none⟩ = some (.int .i64 at_) :=
  ⟨h.cell rfl, h.cell rfl, h.cell rfl, h.cell rfl⟩

set_option maxHeartbeats 1600000 in
set_option maxRecDepth 100000 in
theorem stepTo_plain (kind : Int) (x : Nat) (at_ : Int) (w : World) :
    Calls Tryz.prog 64 #[.agg #[.int .i64 kind, .float .f64 x, .slice none 0 0, .int .i64 at_]] w fun e w' => e = .returned (.agg #[.int .i64 kind, .float .f64 x, .slice none 0 0, .int .i64 at_]) ∧ Only (fun _ => False) w w' := by
  have hB : IsBlock ((w.alloc (.cells (stVals kind x at_).toArray 63)).alloc (.cells (stVals 0 0 0).toArray 86)) w.heap.size (stVals kind x at_) := (IsBlock.new w _ 63).alloc _
  have hC : IsBlock ((w.alloc (.cells (stVals kind x at_).toArray 63)).alloc (.cells (stVals 0 0 0).toArray 86)) (w.heap.size + 1) (stVals 0 0 0) := blk_new _ _ _ _ (World.size_alloc _ _).symm
  have hO : Only (fun _ => False) w ((w.alloc (.cells (stVals kind x at_).toArray 63)).alloc (.cells (stVals 0 0 0).toArray 86)) := ((Only.refl _ w).alloc _).alloc _
  go_enter Tryz.func64, Tryz.ntmps64
  go_upto_region 1 with fail
  refine (?_ : ∀ w2, w2 = (w.alloc (.cells (stVals kind x at_).toArray 63)).alloc (.cells (stVals 0 0 0).toArray 86) → Code.wp _ _ _ _ w2) _ rfl
  intro w2 hw2
  rw [← hw2] at hB hC hO
  have b0 : w2.cell? ⟨w.heap.size, 0, none⟩ = some (.int .i64 kind) := hB.cell rfl
  have b1 : w2.cell? ⟨w.heap.size, 1, none⟩ = some (.float .f64 x) := hB.cell rfl
  have b2 : w2.cell? ⟨w.heap.size, 2, none⟩ = some (.slice none 0 0) := hB.cell rfl
  have b3 : w2.cell? ⟨w.heap.size, 3, none⟩ = some (.int .i64 at_) := hB.cell rfl
  have z0 : w2.cell? ⟨w.heap.size + 1, 0, none⟩ = some (.int .i64 0) := hC.cell rfl
  have z1 : w2.cell? ⟨w.heap.size + 1, 1, none⟩ = some (.float .f64 0) := hC.cell rfl
  have z2 : w2.cell? ⟨w.heap.size + 1, 2, none⟩ = some (.slice none 0 0) := hC.cell rfl
  have z3 : w2.cell? ⟨w.heap.size + 1, 3, none⟩ = some (.int .i64 0) := hC.cell rfl
  have zf := hC.free
  have HC := Lib.hid hC
  have HO := Lib.hid hO
  clear hw2 hC hO
  go_region_held3 (fun wx => wx.cell? ⟨w.heap.size, 0, none⟩ = some (.int .i64 kind) ∧ wx.cell? ⟨w.heap.size, 1, none⟩ = some (.float .f64 x) ∧ wx.cell? ⟨w.heap.size, 2, none⟩ = some (.slice none 0 0) ∧ wx.cell? ⟨w.heap.size, 3, none⟩ = some (.int .i64 at_))
    ((refine st4 ?_; with_reducible (repeat (first | assumption | apply IsBlock.drew | (refine IsBlock.set_ne ?_ (Nat.ne_of_lt (Nat.lt_succ_self _)) _)))))
    (first | (go_at_call 83; refine (pairsTo_nil _).mono ?_; rintro e w' ⟨rfl, rfl⟩))
  all_goals
    go_wp2_with fail
    refine (?_ : ∀ w10, w10 = _ → bodyPost _ _ _ _ _ w10) _ rfl
    intro w10 h10
    have HB : IsBlock w10 (w.heap.size + 1) (stVals kind x at_) := by rw [h10]; exact ((((HC.out.drew).set 0 _).set 1 _).set 2 _).set 3 _
    have HON : Only (fun _ => False) w w10 := by rw [h10]; exact ((((HO.out.drew).setCell (.inr (Nat.le_succ _)) _).setCell (.inr (Nat.le_succ _)) _).setCell (.inr (Nat.le_succ _)) _).setCell (.inr (Nat.le_succ _)) _
    clear h10 b0 b1 b2 b3 z0 z1 z2 z3 zf
    have y0 : w10.cell? ⟨w.heap.size + 1, 0, none⟩ = some (.int .i64 kind) := HB.cell rfl
    have y1 : w10.cell? ⟨w.heap.size + 1, 1, none⟩ = some (.float .f64 x) := HB.cell rfl
    have y2 : w10.cell? ⟨w.heap.size + 1, 2, none⟩ = some (.slice none 0 0) := HB.cell rfl
    have y3 : w10.cell? ⟨w.heap.size + 1, 3, none⟩ = some (.int .i64 at_) := HB.cell rfl
    exact bodyPost_ret (v := .agg (stVals kind x at_).toArray) (by simp [results, Tryz.results64, go_sem, y0, y1, y2, y3, stVals]) rfl ⟨rfl, HON⟩
end Go.Proofs.YtebjclmbacmilaaGreatDoor

namespace Go.Proofs.YtebjclmbacmilaaGreatDoor
open Go.RowKit

theorem info86 : (Tryz.prog.info? 86).map (fun i => (i.zero, i.size, i.bytes)) = some (some (.agg #[.int .i64 0, .float .f64 0, .slice none 0 0, .int .i64 0]), 4, 48) := by kernel_rfl

/-- The cells of element k of a row that is owned, in a world that differs in no old block. -/
theorem row_cells {w wr : World} {B e s n : Nat} {la : Option Addr} {lc : Nat} {xs cl : List Value} {k : Nat} (h : w.ownsRow B e s (.slice la n lc) n xs) (hk : k < n) (ho : Only (fun _ => False) w wr) (hx : ∀ j, j < cl.length → xs[s * k + j]? = cl[j]?) :
    ∃ g, la = some ⟨g, 0, none⟩ ∧ ∀ j u, cl[j]? = some u → wr.cell? ⟨g, k * s + j, none⟩ = some u := by
  have hla : ∃ g, la = some ⟨g, 0, none⟩ := by
    rcases h.2 with ⟨_, h0⟩ | ⟨g, cap, cur, hv, _⟩
    · omega
    · simp only [Value.slice.injEq] at hv; exact ⟨g, hv.1⟩
  obtain ⟨g, rfl⟩ := hla
  refine ⟨g, rfl, fun j u hj => ?_⟩
  have hl : j < cl.length := by
    by_cases h : j < cl.length
    · exact h
    · rw [List.getElem?_eq_none (by omega)] at hj; cases hj
  have hc := h.cells (g := g) rfl _ _ ((hx j hl).trans hj)
  have e : (⟨g, 0, none⟩ : Addr).add (s * k + j) = ⟨g, k * s + j, none⟩ := by
    rw [Nat.mul_comm s k]
    unfold Addr.add; split <;> simp_all
  rw [e] at hc
  exact ho.cell hc id

set_option maxRecDepth 100000 in
set_option maxHeartbeats 1600000 in
theorem stepsTo_plain (la : Option Addr) (lc : Nat) (l : List SD) (B : Nat) (w : World) (hrow : w.ownsRow B 63 4 (.slice la l.length lc) l.length (sRow l)) (hlen : l.length ≤ 4194304) (hnl : ∀ x ∈ l, Value.slice x.la x.ln x.lc = .slice none 0 0) :
    Calls Tryz.prog 39 #[.slice la l.length lc] w fun e w' => ∃ v, e = .returned v ∧ w'.ownsRow w.heap.size 86 4 v l.length (sRow l) ∧ Only (fun _ => False) w w' := by
  obtain ⟨i86, hi, hz0, hz1, hz2⟩ := info_parts info86
  have hlen' : (l.length : Int) ≤ 4194304 := by omega
  have HROW := Lib.hid hrow
  have HNL := Lib.hid hnl
  clear hrow hnl
  go_enter Tryz.func39, Tryz.ntmps39
  go_wp2_with fail
  go_loopw [3, 4] (fun v i wr => ∃ (k : Nat), k ≤ l.length ∧ i = .int .i64 k ∧ wr.ownsRow w.heap.size 86 4 v k (sRow (l.take k)) ∧ Only (fun _ => False) w wr) (fun _ i _ => l.length - (intOf i).toNat)
  case atStart => exact ⟨0, Nat.zero_le _, rfl, World.ownsRow_nil _ _ _ _, Only.refl _ _⟩
  case round =>
    obtain ⟨k, hk, rfl, hown, hon⟩ := hrel
    obtain ⟨ta, tc, rfl⟩ := ownsRow_slice hown
    have HOWN := Lib.hid hown
    have HON := Lib.hid hon
    clear hown hon
    by_cases hkn : k < l.length
    · have hk0 : (0 : Int) ≤ (k : Int) := by omega
      have hk1 : (k : Int) < (l.length : Int) := by omega
      obtain ⟨g, rfl, hcells⟩ := row_cells (cl := sCl l[k]) HROW.out hkn HON.out (fun j hj => sRow_get l k j hkn hj)
      obtain ⟨x, hx⟩ : ∃ x, x = l[k] := ⟨_, rfl⟩
      have hxl := HNL.out x (by rw [hx]; exact List.getElem_mem hkn)
      rw [← hx] at hcells
      have k0 : wr.cell? ⟨g, k * 4, none⟩ = some (.int .i64 x.kind) := hcells 0 _ rfl
      have k1 : wr.cell? ⟨g, k * 4 + 1, none⟩ = some (.float .f64 x.value) := hcells 1 _ rfl
      have k2 : wr.cell? ⟨g, k * 4 + 2, none⟩ = some (.slice x.la x.ln x.lc) := hcells 2 _ rfl
      have k3 : wr.cell? ⟨g, k * 4 + 3, none⟩ = some (.int .i64 x.at_) := hcells 3 _ rfl
      rw [hxl] at k2
      have HX := Lib.hid hx
      have HXL := Lib.hid hxl
      clear hcells hx hxl
      go_wp2_with fail
      refine (stepTo_plain x.kind x.value x.at_ wr).mono ?_
      rintro e w6 ⟨rfl, ho6⟩
      have HO6 := Lib.hid ho6
      have h6 := ho6.ownsRow HOWN.out (fun _ _ => id)
      clear ho6 k0 k1 k2 k3
      go_wp2_with (at_builtin; go_must (refine wpList_append_own _ rfl _ _ 87 rfl w.heap.size 86 i86 _ 4 48 Tryz.underlying87 hi hz0 hz1 hz2 rfl (by decide) _ _ _ rfl (h6.alloc _) ⟨w6.heap.size, 0, none⟩ 1 1 (stVals x.kind x.value x.at_) rfl rfl (cells_of (IsBlock.new w6 (stVals x.kind x.value x.at_) 86)) ?c1 ?c3 ?c4 ?c5 ?_))
      case c1 =>
        intro u hu
        simp only [stVals, List.mem_cons, List.mem_nil_iff, or_false] at hu
        rcases hu with rfl | rfl | rfl | rfl <;> rfl
      case c3 => unfold maxLen; omega
      case c4 => omega
      case c5 => have := HON.out.size; have := HO6.out.size; rw [World.size_alloc]; omega
      intro v8 w8 hown8 hgr8 _
      have hrowk : ∀ j, (Value.slice ta k tc).ownBlock = some j → w.heap.size ≤ j := fun j hj => (h6.lt j hj).1
      have hon8 : Only (fun j => (Value.slice ta k tc).ownBlock = some j) w6 w8 := ((Only.refl _ w6).alloc _).trans (Only.grown hgr8)
      have HNX : Hid (w8.ownsRow w.heap.size 86 4 v8 (k + 1) (sRow (l.take (k + 1))) ∧ Only (fun _ => False) w w8) := Lib.hid ⟨by
          have e1 : l.take (k + 1) = l.take k ++ [x] := by rw [List.take_succ_eq_append_getElem hkn, HX.out]
          have e2 : sRow (l.take (k + 1)) = sRow (l.take k) ++ stVals x.kind x.value x.at_ := by
            rw [e1]; unfold sRow; rw [List.flatMap_append]
            simp only [List.flatMap_cons, List.flatMap_nil, List.append_nil, sCl, stVals]
            rw [HXL.out]
          rw [e2]; exact hown8, Only.widen (HON.out.trans HO6.out) hon8 (fun j hj => hrowk j hj)⟩
      clear hown8 hgr8 hrowk hon8 h6
      go_wp2_with fail
      go_roundw
      case rel => exact ⟨k + 1, hkn, by go_num, HNX.out⟩
      case measure => simp [intOf]; omega
    · have hke : k = l.length := by omega
      subst hke
      have hk1 : ¬ (l.length : Int) < (l.length : Int) := by omega
      have HF : Hid (wr.ownsRow w.heap.size 86 4 (.slice ta l.length tc) l.length (sRow l) ∧ Only (fun _ => False) w wr) := Lib.hid ⟨by have := HOWN.out; rwa [List.take_of_length_le (Nat.le_refl _)] at this, HON.out⟩
      clear hkn hk HOWN HON
      go_wp2_with fail
      go_ret
      exact ⟨_, rfl, HF.out⟩
end Go.Proofs.YtebjclmbacmilaaGreatDoor

namespace Go.Proofs.YtebjclmbacmilaaGreatDoor
open Go.RowKit

set_option maxRecDepth 100000 in
set_option maxHeartbeats 3200000 in
theorem setupTo_plain (bsl : Value) (fac zt : Nat) (maxB mr : Int) (maxZero : Nat) (mex ttl : Int) (bs : List Nat) (w : World) (hb : SrcIs w bsl 1 bs.length (f64s bs)) (hlen : bs.length ≤ 1048577) :
    Calls Tryz.prog 38 #[.agg #[bsl, .float .f64 fac, .float .f64 zt, .int .u32 maxB, .int .i64 mr, .float .f64 maxZero, .int .i64 mex, .int .i64 ttl]] w fun e w' =>
      ∃ ba bc, e = .returned (.agg #[.slice ba bs.length bc, .float .f64 fac, .float .f64 zt, .int .u32 maxB, .int .i64 mr, .float .f64 maxZero, .int .i64 mex, .int .i64 ttl]) ∧ w'.ownsRow w.heap.size 25 1 (.slice ba bs.length bc) bs.length (f64s bs) ∧ Only (fun _ => False) w w' := by
  obtain ⟨i0, hi, hz0, hz1, hz2⟩ := info_parts info25
  obtain ⟨sa, sl, sc, rfl⟩ : ∃ sa sl sc, bsl = .slice sa sl sc := by
    rcases hb with ⟨h, _⟩ | ⟨_, _, h, _⟩
    · exact ⟨_, _, _, h⟩
    · exact ⟨_, _, _, h⟩
  have hB : IsBlock ((w.alloc (.cells (sVals (.slice sa sl sc) fac zt maxB mr maxZero mex ttl).toArray 28)).alloc (.cells (sVals (.slice none 0 0) 0 0 0 0 0 0 0).toArray 69)) w.heap.size (sVals (.slice sa sl sc) fac zt maxB mr maxZero mex ttl) := (IsBlock.new w _ 28).alloc _
  have hC : IsBlock ((w.alloc (.cells (sVals (.slice sa sl sc) fac zt maxB mr maxZero mex ttl).toArray 28)).alloc (.cells (sVals (.slice none 0 0) 0 0 0 0 0 0 0).toArray 69)) (w.heap.size + 1) (sVals (.slice none 0 0) 0 0 0 0 0 0 0) := blk_new _ _ _ _ (World.size_alloc _ _).symm
  have hO : Only (fun _ => False) w ((w.alloc (.cells (sVals (.slice sa sl sc) fac zt maxB mr maxZero mex ttl).toArray 28)).alloc (.cells (sVals (.slice none 0 0) 0 0 0 0 0 0 0).toArray 69)) := ((Only.refl _ w).alloc _).alloc _
  have hS2 : SrcIs ((w.alloc (.cells (sVals (.slice sa sl sc) fac zt maxB mr maxZero mex ttl).toArray 28)).alloc (.cells (sVals (.slice none 0 0) 0 0 0 0 0 0 0).toArray 69)) (.slice sa sl sc) 1 bs.length (f64s bs) := hb.mono (fun a v h => cell_past (cell_past h _) _)
  have HLEN := Lib.hid hlen
  clear hb hlen
  go_enter Tryz.func38, Tryz.ntmps38
  go_upto_region 1 with fail
  refine (?_ : ∀ w2, w2 = (w.alloc (.cells (sVals (.slice sa sl sc) fac zt maxB mr maxZero mex ttl).toArray 28)).alloc (.cells (sVals (.slice none 0 0) 0 0 0 0 0 0 0).toArray 69) → Code.wp _ _ _ _ w2) _ rfl
  intro w2 hw2
  have hsz : w2.heap.size = w.heap.size + 2 := by rw [hw2]; simp
  rw [← hw2] at hB hC hO hS2
  have HC := Lib.hid hC
  have HO := Lib.hid hO
  have HS := Lib.hid hS2
  have HSZ := Lib.hid hsz
  have hc8 := cells8 hB
  have hlt : w.heap.size < w.heap.size + 1 := Nat.lt_succ_self _
  have HM : Hid (((w2.alloc (.cells #[] 25)).drew).ownsRow w2.heap.size 25 1 (.slice (some ⟨w2.heap.size, 0, none⟩) 0 0) 0 []) := Lib.hid (show ((w2.alloc (.cells #[] 25))).ownsRow w2.heap.size 25 1 (.slice (some ⟨w2.heap.size, 0, none⟩) 0 0) 0 [] from World.ownsRow_made w2 #[] 0 (Nat.le_refl _) (Nat.zero_le _) rfl)
  have HSR : Hid (SrcIs ((w2.alloc (.cells #[] 25)).drew) (.slice sa sl sc) 1 bs.length (f64s bs)) := Lib.hid (SrcIs.mono hS2 (fun _ _ h => cell_past h _))
  have HZ1 : Hid (w2.heap.size ≤ ((w2.alloc (.cells #[] 25)).drew).heap.size) := Lib.hid (show w2.heap.size ≤ (w2.alloc (.cells #[] 25)).heap.size by simp)
  have HOA : Hid (Only (fun j => j = w2.heap.size) w2 ((w2.alloc (.cells #[] 25)).drew)) := Lib.hid ((Only.refl (fun j => j = w2.heap.size) w2).alloc _).drew
  clear hw2 hC hO hS2 hsz
  go_region_held3 (fun wx => wx.cell? ⟨w.heap.size, 0, none⟩ = some (.slice sa sl sc) ∧ wx.cell? ⟨w.heap.size, 1, none⟩ = some (.float .f64 fac) ∧ wx.cell? ⟨w.heap.size, 2, none⟩ = some (.float .f64 zt) ∧ wx.cell? ⟨w.heap.size, 3, none⟩ = some (.int .u32 maxB) ∧ wx.cell? ⟨w.heap.size, 4, none⟩ = some (.int .i64 mr) ∧ wx.cell? ⟨w.heap.size, 5, none⟩ = some (.float .f64 maxZero) ∧ wx.cell? ⟨w.heap.size, 6, none⟩ = some (.int .i64 mex) ∧ wx.cell? ⟨w.heap.size, 7, none⟩ = some (.int .i64 ttl))
    ((refine cells8 ?_; with_reducible (repeat (first | assumption | apply IsBlock.drew | apply IsBlock.alloc | (refine IsBlock.set_ne ?_ (Nat.ne_of_lt hlt) _)))))
    (first
      | (refine step_append_src _ (by rfl) _ _ _ (by rfl) w2.heap.size 25 i0 _ 1 8 Tryz.underlying22 hi hz0 hz1 hz2 rfl (by omega) (.slice (some ⟨w2.heap.size, 0, none⟩) 0 0) 0 [] (by rfl) HM.out (.slice sa sl sc) bs.length (f64s bs) (by rfl) HSR.out (one_f64s bs) (by have := HLEN.out; unfold maxLen; omega) (by have := HLEN.out; omega) HZ1.out ?_
         intro v3 w3 hown3 hgr3 hnil3
         rw [Nat.zero_add, List.nil_append] at hown3
         obtain ⟨ba3, bc3, rfl⟩ := ownsRow_slice hown3
         have hO23 : Only (fun j => j = w2.heap.size) w2 w3 := HOA.out.trans ((Only.grown hgr3).mono (fun j _ h => by simpa [Value.ownBlock] using h.symm))
         have hltw : w.heap.size < w2.heap.size := by have := HSZ.out; omega
         have hB3 := hO23.isBlock hB (Nat.ne_of_lt hltw)
         have hC3 := hO23.isBlock HC.out (by have := HSZ.out; show ¬ _ = _; omega)
         have z0 := hC3.cell (i := 0) rfl
         have z1 := hC3.cell (i := 1) rfl
         have z2 := hC3.cell (i := 2) rfl
         have z3 := hC3.cell (i := 3) rfl
         have z4 := hC3.cell (i := 4) rfl
         have z5 := hC3.cell (i := 5) rfl
         have z6 := hC3.cell (i := 6) rfl
         have z7 := hC3.cell (i := 7) rfl
         have zf := hC3.free
         have HC3 := Lib.hid hC3
         have HOW3 := Lib.hid hown3
         have HON3 := Lib.hid (Only.widen HO.out hO23 (fun j hj => by have := HSZ.out; omega))
         clear hown3 hgr3 hnil3 hO23 hC3 hltw))
  all_goals
    go_wp2_with fail
    refine (?_ : ∀ w10, w10 = _ → bodyPost _ _ _ _ _ w10) _ rfl
    intro w10 h10
    have HB : IsBlock w10 (w.heap.size + 1) (sVals (.slice ba3 bs.length bc3) fac zt maxB mr maxZero mex ttl) := by rw [h10]; exact ((((((((HC3.out.set 0 _).set 1 _).set 2 _).set 3 _).set 4 _).set 5 _).set 6 _).set 7 _)
    have HON : Only (fun _ => False) w w10 := by rw [h10]; exact ((((((((HON3.out.setCell (.inr (Nat.le_succ _)) _).setCell (.inr (Nat.le_succ _)) _).setCell (.inr (Nat.le_succ _)) _).setCell (.inr (Nat.le_succ _)) _).setCell (.inr (Nat.le_succ _)) _).setCell (.inr (Nat.le_succ _)) _).setCell (.inr (Nat.le_succ _)) _).setCell (.inr (Nat.le_succ _)) _)
    have HOW : w10.ownsRow w2.heap.size 25 1 (.slice ba3 bs.length bc3) bs.length (f64s bs) := by rw [h10]; exact (ownsRow_set (ownsRow_set (ownsRow_set (ownsRow_set (ownsRow_set (ownsRow_set (ownsRow_set (ownsRow_set HOW3.out _ _ (by have := HSZ.out; show w.heap.size + 1 < _; omega)) _ _ (by have := HSZ.out; show w.heap.size + 1 < _; omega)) _ _ (by have := HSZ.out; show w.heap.size + 1 < _; omega)) _ _ (by have := HSZ.out; show w.heap.size + 1 < _; omega)) _ _ (by have := HSZ.out; show w.heap.size + 1 < _; omega)) _ _ (by have := HSZ.out; show w.heap.size + 1 < _; omega)) _ _ (by have := HSZ.out; show w.heap.size + 1 < _; omega)) _ _ (by have := HSZ.out; show w.heap.size + 1 < _; omega))
    clear h10 z0 z1 z2 z3 z4 z5 z6 z7 zf
    have y0 : w10.cell? ⟨w.heap.size + 1, 0, none⟩ = some (.slice ba3 bs.length bc3) := HB.cell rfl
    have y1 : w10.cell? ⟨w.heap.size + 1, 1, none⟩ = some (.float .f64 fac) := HB.cell rfl
    have y2 : w10.cell? ⟨w.heap.size + 1, 2, none⟩ = some (.float .f64 zt) := HB.cell rfl
    have y3 : w10.cell? ⟨w.heap.size + 1, 3, none⟩ = some (.int .u32 maxB) := HB.cell rfl
    have y4 : w10.cell? ⟨w.heap.size + 1, 4, none⟩ = some (.int .i64 mr) := HB.cell rfl
    have y5 : w10.cell? ⟨w.heap.size + 1, 5, none⟩ = some (.float .f64 maxZero) := HB.cell rfl
    have y6 : w10.cell? ⟨w.heap.size + 1, 6, none⟩ = some (.int .i64 mex) := HB.cell rfl
    have y7 : w10.cell? ⟨w.heap.size + 1, 7, none⟩ = some (.int .i64 ttl) := HB.cell rfl
    exact bodyPost_ret (v := .agg (sVals (.slice ba3 bs.length bc3) fac zt maxB mr maxZero mex ttl).toArray) (by simp [results, Tryz.results38, go_sem, y0, y1, y2, y3, y4, y5, y6, y7, sVals]) rfl ⟨_, _, rfl, ownsRow_lower HOW (by have := HSZ.out; omega), HON⟩
end Go.Proofs.YtebjclmbacmilaaGreatDoor

namespace Go.Proofs.YtebjclmbacmilaaGreatDoor
open Go.RowKit

def mkVals (x : Nat) (at_ : Int) : List Value := [.float .f64 x, .slice none 0 0, .int .i64 at_]
theorem mk3 {w : World} {b : Nat} {x : Nat} {at_ : Int} (h : IsBlock w b (mkVals x at_)) :
    w.cell? ⟨b, 0, none⟩ = some (.float .f64 x) ∧ w.cell? ⟨b, 1, none⟩ = some (.slice none 0 0) ∧ w.cell? ⟨b, 2, none⟩ = some (.int .i64 at_) :=
  ⟨h.cell rfl, h.cell rfl, h.cell rfl⟩

set_option maxHeartbeats 1600000 in
set_option maxRecDepth 100000 in
theorem markFrom_plain (x : Nat) (at_ : Int) (w : World) :
    Calls Tryz.prog 99 #[.agg #[.float .f64 x, .slice none 0 0, .int .i64 at_]] w fun e w' => e = .returned (.agg #[.float .f64 x, .slice none 0 0, .int .i64 at_]) ∧ Only (fun _ => False) w w' := by
  have hB : IsBlock ((w.alloc (.cells (mkVals x at_).toArray 94)).alloc (.cells (mkVals 0 0).toArray 41)) w.heap.size (mkVals x at_) := (IsBlock.new w _ 94).alloc _
  have hC : IsBlock ((w.alloc (.cells (mkVals x at_).toArray 94)).alloc (.cells (mkVals 0 0).toArray 41)) (w.heap.size + 1) (mkVals 0 0) := blk_new _ _ _ _ (World.size_alloc _ _).symm
  have hO : Only (fun _ => False) w ((w.alloc (.cells (mkVals x at_).toArray 94)).alloc (.cells (mkVals 0 0).toArray 41)) := ((Only.refl _ w).alloc _).alloc _
  go_enter Tryz.func99, Tryz.ntmps99
  go_upto_region 1 with fail
  refine (?_ : ∀ w2, w2 = (w.alloc (.cells (mkVals x at_).toArray 94)).alloc (.cells (mkVals 0 0).toArray 41) → Code.wp _ _ _ _ w2) _ rfl
  intro w2 hw2
  rw [← hw2] at hB hC hO
  have z0 : w2.cell? ⟨w.heap.size + 1, 0, none⟩ = some (.float .f64 0) := hC.cell rfl
  have z1 : w2.cell? ⟨w.heap.size + 1, 1, none⟩ = some (.slice none 0 0) := hC.cell rfl
  have z2 : w2.cell? ⟨w.heap.size + 1, 2, none⟩ = some (.int .i64 0) := hC.cell rfl
  have zf := hC.free
  have hb3 := mk3 hB
  have HC := Lib.hid hC
  have HO := Lib.hid hO
  clear hw2 hC hO
  go_region_held3 (fun wx => wx.cell? ⟨w.heap.size, 0, none⟩ = some (.float .f64 x) ∧ wx.cell? ⟨w.heap.size, 1, none⟩ = some (.slice none 0 0) ∧ wx.cell? ⟨w.heap.size, 2, none⟩ = some (.int .i64 at_))
    ((refine mk3 ?_; with_reducible (repeat (first | assumption | apply IsBlock.drew | (refine IsBlock.set_ne ?_ (Nat.ne_of_lt (Nat.lt_succ_self _)) _)))))
    (first | (go_at_call 125; refine (pairsFrom_nil _).mono ?_; rintro e w' ⟨rfl, rfl⟩))
  all_goals
    go_wp2_with fail
    refine (?_ : ∀ w10, w10 = _ → bodyPost _ _ _ _ _ w10) _ rfl
    intro w10 h10
    have HB : IsBlock w10 (w.heap.size + 1) (mkVals x at_) := by rw [h10]; exact (((HC.out.drew).set 0 _).set 1 _).set 2 _
    have HON : Only (fun _ => False) w w10 := by rw [h10]; exact (((HO.out.drew).setCell (.inr (Nat.le_succ _)) _).setCell (.inr (Nat.le_succ _)) _).setCell (.inr (Nat.le_succ _)) _
    clear h10 z0 z1 z2 zf
    have y0 : w10.cell? ⟨w.heap.size + 1, 0, none⟩ = some (.float .f64 x) := HB.cell rfl
    have y1 : w10.cell? ⟨w.heap.size + 1, 1, none⟩ = some (.slice none 0 0) := HB.cell rfl
    have y2 : w10.cell? ⟨w.heap.size + 1, 2, none⟩ = some (.int .i64 at_) := HB.cell rfl
    exact bodyPost_ret (v := .agg (mkVals x at_).toArray) (by simp [results, Tryz.results99, go_sem, y0, y1, y2, mkVals]) rfl ⟨rfl, HON⟩

def bkVals (c : Int) (u : Nat) (has : Bool) (x : Nat) (at_ : Int) : List Value := [.int .u64 c, .float .f64 u, .bool has, .float .f64 x, .slice none 0 0, .int .i64 at_]
theorem bk6 {w : World} {b : Nat} {c : Int} {u : Nat} {has : Bool} {x : Nat} {at_ : Int} (h : IsBlock w b (bkVals c u has x at_)) :
    w.cell? ⟨b, 0, none⟩ = some (.int .u64 c) ∧ w.cell? ⟨b, 1, none⟩ = some (.float .f64 u) ∧ w.cell? ⟨b, 2, none⟩ = some (.bool has) ∧ w.cell? ⟨b, 3, none⟩ = some (.float .f64 x) ∧ w.cell? ⟨b, 4, none⟩ = some (.slice none 0 0) ∧ w.cell? ⟨b, 5, none⟩ = some (.int .i64 at_) :=
  ⟨h.cell rfl, h.cell rfl, h.cell rfl, h.cell rfl, h.cell rfl, h.cell rfl⟩

set_option maxHeartbeats 1600000 in
set_option maxRecDepth 100000 in
theorem bucketFrom_plain (c : Int) (u : Nat) (has : Bool) (x : Nat) (at_ : Int) (w : World) :
    Calls Tryz.prog 97 #[.agg #[.int .u64 c, .float .f64 u, .bool has, .float .f64 x, .slice none 0 0, .int .i64 at_]] w fun e w' => e = .returned (.agg #[.int .u64 c, .float .f64 u, .bool has, .float .f64 x, .slice none 0 0, .int .i64 at_]) ∧ Only (fun _ => False) w w' := by
  have hB : IsBlock ((w.alloc (.cells (bkVals c u has x at_).toArray 96)).alloc (.cells (bkVals 0 0 false 0 0).toArray 43)) w.heap.size (bkVals c u has x at_) := (IsBlock.new w _ 96).alloc _
  have hC : IsBlock ((w.alloc (.cells (bkVals c u has x at_).toArray 96)).alloc (.cells (bkVals 0 0 false 0 0).toArray 43)) (w.heap.size + 1) (bkVals 0 0 false 0 0) := blk_new _ _ _ _ (World.size_alloc _ _).symm
  have hO : Only (fun _ => False) w ((w.alloc (.cells (bkVals c u has x at_).toArray 96)).alloc (.cells (bkVals 0 0 false 0 0).toArray 43)) := ((Only.refl _ w).alloc _).alloc _
  go_enter Tryz.func97, Tryz.ntmps97
  go_upto_region 1 with fail
  refine (?_ : ∀ w2, w2 = (w.alloc (.cells (bkVals c u has x at_).toArray 96)).alloc (.cells (bkVals 0 0 false 0 0).toArray 43) → Code.wp _ _ _ _ w2) _ rfl
  intro w2 hw2
  rw [← hw2] at hB hC hO
  have hb6 := bk6 hB
  have HC := Lib.hid hC
  have HO := Lib.hid hO
  clear hw2 hC hO
  go_region_held3 (fun wx => wx.cell? ⟨w.heap.size, 0, none⟩ = some (.int .u64 c) ∧ wx.cell? ⟨w.heap.size, 1, none⟩ = some (.float .f64 u) ∧ wx.cell? ⟨w.heap.size, 2, none⟩ = some (.bool has) ∧ wx.cell? ⟨w.heap.size, 3, none⟩ = some (.float .f64 x) ∧ wx.cell? ⟨w.heap.size, 4, none⟩ = some (.slice none 0 0) ∧ wx.cell? ⟨w.heap.size, 5, none⟩ = some (.int .i64 at_))
    ((refine bk6 ?_; with_reducible (repeat (first | assumption | apply IsBlock.drew | (refine IsBlock.set_ne ?_ (Nat.ne_of_lt (Nat.lt_succ_self _)) _)))))
    (first | (go_at_call 99
              refine (markFrom_plain _ _ _).mono ?_
              rintro e w3 ⟨rfl, ho3⟩
              have hB3 := ho3.isBlock hB.drew id
              have hC3 := ho3.isBlock HC.out.drew id
              have z0 : w3.cell? ⟨w.heap.size + 1, 0, none⟩ = some (.int .u64 0) := hC3.cell rfl
              have z1 : w3.cell? ⟨w.heap.size + 1, 1, none⟩ = some (.float .f64 0) := hC3.cell rfl
              have z2 : w3.cell? ⟨w.heap.size + 1, 2, none⟩ = some (.bool false) := hC3.cell rfl
              have z3 : w3.cell? ⟨w.heap.size + 1, 3, none⟩ = some (.float .f64 0) := hC3.cell rfl
              have z4 : w3.cell? ⟨w.heap.size + 1, 4, none⟩ = some (.slice none 0 0) := hC3.cell rfl
              have z5 : w3.cell? ⟨w.heap.size + 1, 5, none⟩ = some (.int .i64 0) := hC3.cell rfl
              have zf := hC3.free
              have HC3 := Lib.hid hC3
              have HO3 := Lib.hid (HO.out.drew.trans ho3)
              clear hC3 ho3))
  all_goals
    go_wp2_with fail
    refine (?_ : ∀ w10, w10 = _ → bodyPost _ _ _ _ _ w10) _ rfl
    intro w10 h10
    have HB : IsBlock w10 (w.heap.size + 1) (bkVals c u has x at_) := by rw [h10]; exact (((((HC3.out.set 0 _).set 1 _).set 2 _).set 3 _).set 4 _).set 5 _
    have HON : Only (fun _ => False) w w10 := by rw [h10]; exact (((((HO3.out.setCell (.inr (Nat.le_succ _)) _).setCell (.inr (Nat.le_succ _)) _).setCell (.inr (Nat.le_succ _)) _).setCell (.inr (Nat.le_succ _)) _).setCell (.inr (Nat.le_succ _)) _).setCell (.inr (Nat.le_succ _)) _
    clear h10 z0 z1 z2 z3 z4 z5 zf
    have y0 : w10.cell? ⟨w.heap.size + 1, 0, none⟩ = some (.int .u64 c) := HB.cell rfl
    have y1 : w10.cell? ⟨w.heap.size + 1, 1, none⟩ = some (.float .f64 u) := HB.cell rfl
    have y2 : w10.cell? ⟨w.heap.size + 1, 2, none⟩ = some (.bool has) := HB.cell rfl
    have y3 : w10.cell? ⟨w.heap.size + 1, 3, none⟩ = some (.float .f64 x) := HB.cell rfl
    have y4 : w10.cell? ⟨w.heap.size + 1, 4, none⟩ = some (.slice none 0 0) := HB.cell rfl
    have y5 : w10.cell? ⟨w.heap.size + 1, 5, none⟩ = some (.int .i64 at_) := HB.cell rfl
    exact bodyPost_ret (v := .agg (bkVals c u has x at_).toArray) (by simp [results, Tryz.results97, go_sem, y0, y1, y2, y3, y4, y5, bkVals]) rfl ⟨rfl, HON⟩
end Go.Proofs.YtebjclmbacmilaaGreatDoor

namespace Go.Proofs.YtebjclmbacmilaaGreatDoor
open Go.RowKit

theorem info43 : (Tryz.prog.info? 43).map (fun i => (i.zero, i.size, i.bytes)) = some (some (.agg #[.int .u64 0, .float .f64 0, .bool false, .float .f64 0, .slice none 0 0, .int .i64 0]), 6, 64) := by kernel_rfl
theorem flat_get {α : Type} (f : α → List Value) (s : Nat) (hs : ∀ x, (f x).length = s) (l : List α) (k j : Nat) (hk : k < l.length) (hj : j < s) : (l.flatMap f)[s * k + j]? = (f l[k])[j]? := by
  induction l generalizing k with
  | nil => simp at hk
  | cons x r ih =>
    rw [List.flatMap_cons]
    have hx := hs x
    cases k with
    | zero => rw [List.getElem?_append_left (by omega)]; simp
    | succ k =>
      have e : s * (k + 1) + j = s + (s * k + j) := by rw [Nat.mul_succ]; omega
      rw [List.getElem?_append_right (by omega), e, hx, Nat.add_sub_cancel_left, ih k (by simpa using hk)]
      simp

set_option maxRecDepth 100000 in
set_option maxHeartbeats 1600000 in
theorem bucketsFrom_plain (v : Value) (l : List BP) (B : Nat) (w : World) (hrow : w.ownsRow B 96 6 v l.length (bRow l)) (hlen : l.length ≤ 1048578) :
    Calls Tryz.prog 84 #[v] w fun e w' => ∃ v', e = .returned v' ∧ w'.ownsRow w.heap.size 43 6 v' l.length (bRow l) ∧ Only (fun _ => False) w w' := by
  obtain ⟨i43, hi, hz0, hz1, hz2⟩ := info_parts info43
  obtain ⟨la, lc, rfl⟩ := ownsRow_slice hrow
  have hlen' : (l.length : Int) ≤ 1048578 := by omega
  have HROW := Lib.hid hrow
  clear hrow
  go_enter Tryz.func84, Tryz.ntmps84
  go_wp2_with fail
  go_loopw [3, 4] (fun v i wr => ∃ (k : Nat), k ≤ l.length ∧ i = .int .i64 k ∧ wr.ownsRow w.heap.size 43 6 v k (bRow (l.take k)) ∧ Only (fun _ => False) w wr) (fun _ i _ => l.length - (intOf i).toNat)
  case atStart => exact ⟨0, Nat.zero_le _, rfl, World.ownsRow_nil _ _ _ _, Only.refl _ _⟩
  case round =>
    obtain ⟨k, hk, rfl, hown, hon⟩ := hrel
    obtain ⟨ta, tc, rfl⟩ := ownsRow_slice hown
    have HOWN := Lib.hid hown
    have HON := Lib.hid hon
    clear hown hon
    by_cases hkn : k < l.length
    · have hk0 : (0 : Int) ≤ (k : Int) := by omega
      have hk1 : (k : Int) < (l.length : Int) := by omega
      obtain ⟨g, rfl, hcells⟩ := row_cells (cl := bCells l[k]) HROW.out hkn HON.out (fun j hj => flat_get bCells 6 (fun _ => rfl) l k j hkn hj)
      obtain ⟨x, hx⟩ : ∃ x, x = l[k] := ⟨_, rfl⟩
      rw [← hx] at hcells
      have k0 : wr.cell? ⟨g, k * 6, none⟩ = some (.int .u64 x.cum) := hcells 0 _ rfl
      have k1 : wr.cell? ⟨g, k * 6 + 1, none⟩ = some (.float .f64 x.up) := hcells 1 _ rfl
      have k2 : wr.cell? ⟨g, k * 6 + 2, none⟩ = some (.bool false) := hcells 2 _ rfl
      have k3 : wr.cell? ⟨g, k * 6 + 3, none⟩ = some (.float .f64 0) := hcells 3 _ rfl
      have k4 : wr.cell? ⟨g, k * 6 + 4, none⟩ = some (.slice none 0 0) := hcells 4 _ rfl
      have k5 : wr.cell? ⟨g, k * 6 + 5, none⟩ = some (.int .i64 0) := hcells 5 _ rfl
      have HX := Lib.hid hx
      clear hcells hx
      go_wp2_with fail
      refine (bucketFrom_plain x.cum x.up false 0 0 wr).mono ?_
      rintro e w6 ⟨rfl, ho6⟩
      have HO6 := Lib.hid ho6
      have h6 := ho6.ownsRow HOWN.out (fun _ _ => id)
      clear ho6 k0 k1 k2 k3 k4 k5
      go_wp2_with (at_builtin; go_must (refine wpList_append_own _ rfl _ _ 31 rfl w.heap.size 43 i43 _ 6 64 Tryz.underlying31 hi hz0 hz1 hz2 rfl (by decide) _ _ _ rfl (h6.alloc _) ⟨w6.heap.size, 0, none⟩ 1 1 (bCells x) rfl rfl (cells_of (IsBlock.new w6 (bCells x) 43)) ?c1 ?c3 ?c4 ?c5 ?_))
      case c1 =>
        intro u hu
        simp only [bCells, List.mem_cons, List.mem_nil_iff, or_false] at hu
        rcases hu with rfl | rfl | rfl | rfl | rfl | rfl <;> rfl
      case c3 => unfold maxLen; omega
      case c4 => omega
      case c5 => have := HON.out.size; have := HO6.out.size; rw [World.size_alloc]; omega
      intro v8 w8 hown8 hgr8 _
      have hrowk : ∀ j, (Value.slice ta k tc).ownBlock = some j → w.heap.size ≤ j := fun j hj => (h6.lt j hj).1
      have hon8 : Only (fun j => (Value.slice ta k tc).ownBlock = some j) w6 w8 := ((Only.refl _ w6).alloc _).trans (Only.grown hgr8)
      have HNX : Hid (w8.ownsRow w.heap.size 43 6 v8 (k + 1) (bRow (l.take (k + 1))) ∧ Only (fun _ => False) w w8) := Lib.hid ⟨by
          have e1 : l.take (k + 1) = l.take k ++ [x] := by rw [List.take_succ_eq_append_getElem hkn, HX.out]
          have e2 : bRow (l.take (k + 1)) = bRow (l.take k) ++ bCells x := by
            rw [e1]; unfold bRow; rw [List.flatMap_append]
            simp only [List.flatMap_cons, List.flatMap_nil, List.append_nil]
          rw [e2]; exact hown8, Only.widen (HON.out.trans HO6.out) hon8 (fun j hj => hrowk j hj)⟩
      clear hown8 hgr8 hrowk hon8 h6
      go_wp2_with fail
      go_roundw
      case rel => exact ⟨k + 1, hkn, by go_num, HNX.out⟩
      case measure => simp [intOf]; omega
    · have hke : k = l.length := by omega
      subst hke
      have hk1 : ¬ (l.length : Int) < (l.length : Int) := by omega
      have HF : Hid (wr.ownsRow w.heap.size 43 6 (.slice ta l.length tc) l.length (bRow l) ∧ Only (fun _ => False) w wr) := Lib.hid ⟨by have := HOWN.out; rwa [List.take_of_length_le (Nat.le_refl _)] at this, HON.out⟩
      clear hkn hk HOWN HON
      go_wp2_with fail
      go_ret
      exact ⟨_, rfl, HF.out⟩
end Go.Proofs.YtebjclmbacmilaaGreatDoor
