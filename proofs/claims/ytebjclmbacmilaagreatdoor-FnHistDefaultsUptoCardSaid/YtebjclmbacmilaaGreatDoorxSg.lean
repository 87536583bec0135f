/- The default bounds of the specification; lists of nothing are the same; an empty exemplar. Conditions: as stated. SameMark of two empty exemplars. No conditions. SameBuckets of two lists that hold the same. Conditions: as stated. SameHist of two classic histograms that hold the same. Conditions: as stated. -/
import Derived.Test.YtebjclmbacmilaaGreatDoorxLe
import Derived.Test.YtebjclmbacmilaaGreatDoorxCv
import Derived.Deep.RegionHeld3
namespace Go.Proofs.YtebjclmbacmilaaGreatDoor
open Go.RowKit

theorem sameRuns_nil (w : World) : Calls Tryz.prog 45 #[.slice none 0 0, .slice none 0 0] w fun e w' => e = .returned (.bool true) ∧ w' = w := by
  go_enter Tryz.func45, Tryz.ntmps45
  go_wp2_with fail
  refine wp_loop_rounds 1 ?_
  rw [rounds_succ]
  go_wp2_with fail
  go_ret
  exact ⟨rfl, rfl⟩
theorem sameMarks_nil (w : World) : Calls Tryz.prog 47 #[.slice none 0 0, .slice none 0 0] w fun e w' => e = .returned (.bool true) ∧ w' = w := by
  go_enter Tryz.func47, Tryz.ntmps47
  go_wp2_with fail
  refine wp_loop_rounds 1 ?_
  rw [rounds_succ]
  go_wp2_with fail
  go_ret
  exact ⟨rfl, rfl⟩
theorem samePairs_nil (w : World) : Calls Tryz.prog 87 #[.slice none 0 0, .slice none 0 0] w fun e w' => e = .returned (.bool true) ∧ w' = w := by
  go_enter Tryz.func87, Tryz.ntmps87
  go_wp2_with fail
  refine wp_loop_rounds 1 ?_
  rw [rounds_succ]
  go_wp2_with fail
  go_ret
  exact ⟨rfl, rfl⟩
theorem sameDeltas_nil (a b : Option Addr) (c d : Nat) (w : World) : Calls Tryz.prog 46 #[.slice a 0 c, .slice b 0 d] w fun e w' => e = .returned (.bool true) ∧ w' = w := by
  go_enter Tryz.func46, Tryz.ntmps46
  go_wp2_with fail
  refine wp_loop_rounds 1 ?_
  rw [rounds_succ]
  go_wp2_with fail
  go_ret
  exact ⟨rfl, rfl⟩
set_option maxRecDepth 100000 in
theorem histDefault_any (w : World) : Calls Tryz.prog 24 #[] w fun e w' => e = .returned (.slice (some ⟨w.heap.size, 0, none⟩) 11 11) ∧ w' = w.alloc (.cells (f64s defBs).toArray 25) := by
  go_enter Tryz.func24, Tryz.ntmps24
  go_wp2_with fail
  go_ret
  exact ⟨rfl, rfl⟩
end Go.Proofs.YtebjclmbacmilaaGreatDoor

namespace Go.Proofs.YtebjclmbacmilaaGreatDoor
open Go.RowKit

theorem sameNum_same (a : Nat) (w : World) : Calls Tryz.prog 23 #[.float .f64 a, .float .f64 a] w fun e w' => e = .returned (.bool true) ∧ w' = w := by
  refine (sameNum_any a a w).mono ?_
  rintro e w' ⟨rfl, rfl⟩
  refine ⟨?_, rfl⟩
  cases h : Fl.isNaN a with
  | true => simp
  | false => rw [(feq_iff a a).2 ⟨h, h, rfl⟩]; rfl
set_option maxRecDepth 100000 in
theorem sameMark_none (w : World) : Calls Tryz.prog 69 #[.agg #[.float .f64 0, .slice none 0 0, .int .i64 0], .agg #[.float .f64 0, .slice none 0 0, .int .i64 0]] w fun e w' => e = .returned (.bool true) ∧ Only (fun _ => False) w w' := by
  go_enter Tryz.func69, Tryz.ntmps69
  go_wp2_with fail
  refine (sameNum_same 0 _).mono ?_
  rintro e w' ⟨rfl, hw⟩
  rw [hw]
  clear hw w'
  go_wp2_with fail
  refine (samePairs_nil _).mono ?_
  rintro e w' ⟨rfl, hw⟩
  rw [hw]
  clear hw w'
  go_wp2_with fail
  go_ret
  exact ⟨rfl, ((Only.refl _ w).alloc _).alloc _⟩
end Go.Proofs.YtebjclmbacmilaaGreatDoor

namespace Go.Proofs.YtebjclmbacmilaaGreatDoor
open Go.RowKit

theorem only_behind {S : Nat → Prop} {a b c : World} (k : Only S b c) (h : Only S a b) : Only S a c := h.trans k
/-- The cells of a bucket without exemplar. -/
def BkAt (w : World) (g k cum up : Nat) : Prop := w.cell? ⟨g, k * 6, none⟩ = some (.int .u64 cum) ∧ w.cell? ⟨g, k * 6 + 1, none⟩ = some (.float .f64 up) ∧ w.cell? ⟨g, k * 6 + 2, none⟩ = some (.bool false) ∧ w.cell? ⟨g, k * 6 + 3, none⟩ = some (.float .f64 0) ∧ w.cell? ⟨g, k * 6 + 4, none⟩ = some (.slice none 0 0) ∧ w.cell? ⟨g, k * 6 + 5, none⟩ = some (.int .i64 0)
theorem BkAt.kept {w w' : World} {g k cum up : Nat} (h : BkAt w g k cum up) (ho : Only (fun _ => False) w w') : BkAt w' g k cum up :=
  ⟨ho.cell h.1 id, ho.cell h.2.1 id, ho.cell h.2.2.1 id, ho.cell h.2.2.2.1 id, ho.cell h.2.2.2.2.1 id, ho.cell h.2.2.2.2.2 id⟩

set_option maxRecDepth 100000 in
set_option maxHeartbeats 3200000 in
theorem sameBuckets_any (g1 g2 n c1 c2 : Nat) (w : World) (hn : n ≤ 1048578) (H : ∀ k, k < n → ∃ cum up, BkAt w g1 k cum up ∧ BkAt w g2 k cum up) :
    Calls Tryz.prog 44 #[.slice (some ⟨g1, 0, none⟩) n c1, .slice (some ⟨g2, 0, none⟩) n c2] w fun e w' => e = .returned (.bool true) ∧ Only (fun _ => False) w w' := by
  have HH := Lib.hid H
  have hn' : (n : Int) ≤ 1048578 := by omega
  clear H
  go_enter Tryz.func44, Tryz.ntmps44
  go_wp2_with fail
  go_loopw [5] (fun i wr => ∃ (k : Nat), k ≤ n ∧ i = .int .i64 k ∧ Only (fun _ => False) w wr) (fun i _ => n - (intOf i).toNat)
  case atStart => exact ⟨0, Nat.zero_le _, rfl, Only.refl _ _⟩
  case round =>
    obtain ⟨k, hk, rfl, hon⟩ := hrel
    by_cases hkn : k < n
    · have hk0 : (0 : Int) ≤ (k : Int) := by omega
      have hk1 : (k : Int) < (n : Int) := by omega
      obtain ⟨cum, up, ha, hb⟩ := HH.out k hkn
      have HS : Hid (∀ wx, Only (fun _ => False) wr wx → wx.cell? ⟨g1, k * 6, none⟩ = some (.int .u64 cum) ∧ wx.cell? ⟨g1, k * 6 + 1, none⟩ = some (.float .f64 up) ∧ wx.cell? ⟨g1, k * 6 + 2, none⟩ = some (.bool false) ∧ wx.cell? ⟨g1, k * 6 + 3, none⟩ = some (.float .f64 0) ∧ wx.cell? ⟨g1, k * 6 + 4, none⟩ = some (.slice none 0 0) ∧ wx.cell? ⟨g1, k * 6 + 5, none⟩ = some (.int .i64 0) ∧
          wx.cell? ⟨g2, k * 6, none⟩ = some (.int .u64 cum) ∧ wx.cell? ⟨g2, k * 6 + 1, none⟩ = some (.float .f64 up) ∧ wx.cell? ⟨g2, k * 6 + 2, none⟩ = some (.bool false) ∧ wx.cell? ⟨g2, k * 6 + 3, none⟩ = some (.float .f64 0) ∧ wx.cell? ⟨g2, k * 6 + 4, none⟩ = some (.slice none 0 0) ∧ wx.cell? ⟨g2, k * 6 + 5, none⟩ = some (.int .i64 0)) := Lib.hid (fun wx ho => by
        have a := (ha.kept hon).kept ho
        have b := (hb.kept hon).kept ho
        exact ⟨a.1, a.2.1, a.2.2.1, a.2.2.2.1, a.2.2.2.2.1, a.2.2.2.2.2, b.1, b.2.1, b.2.2.1, b.2.2.2.1, b.2.2.2.2.1, b.2.2.2.2.2⟩)
      obtain ⟨a0, a1, a2, a3, a4, a5, b0, b1, b2, b3, b4, b5⟩ := HS.out wr (Only.refl _ _)
      have HON := Lib.hid hon
      clear ha hb hon
      go_wp2_with fail
      go_region_held3 (fun wx => wx.cell? ⟨g1, k * 6, none⟩ = some (.int .u64 cum) ∧ wx.cell? ⟨g1, k * 6 + 1, none⟩ = some (.float .f64 up) ∧ wx.cell? ⟨g1, k * 6 + 2, none⟩ = some (.bool false) ∧ wx.cell? ⟨g1, k * 6 + 3, none⟩ = some (.float .f64 0) ∧ wx.cell? ⟨g1, k * 6 + 4, none⟩ = some (.slice none 0 0) ∧ wx.cell? ⟨g1, k * 6 + 5, none⟩ = some (.int .i64 0) ∧ wx.cell? ⟨g2, k * 6, none⟩ = some (.int .u64 cum) ∧ wx.cell? ⟨g2, k * 6 + 1, none⟩ = some (.float .f64 up) ∧ wx.cell? ⟨g2, k * 6 + 2, none⟩ = some (.bool false) ∧ wx.cell? ⟨g2, k * 6 + 3, none⟩ = some (.float .f64 0) ∧ wx.cell? ⟨g2, k * 6 + 4, none⟩ = some (.slice none 0 0) ∧ wx.cell? ⟨g2, k * 6 + 5, none⟩ = some (.int .i64 0))
        ((refine HS.out _ ?_; with_reducible (repeat (first | assumption | exact Only.refl _ _ | apply Only.drew | apply Only.alloc))))
        (first
          | (go_at_call 23; refine (sameNum_same up _).mono ?_; rintro e w' ⟨rfl, rfl⟩)
          | (go_at_call 69
             refine (sameMark_none _).mono ?_
             rintro e w9 ⟨rfl, ho9⟩
             have hO9 : Only (fun _ => False) wr w9 := only_behind ho9 (by with_reducible (repeat (first | exact Only.refl _ _ | apply Only.drew | apply Only.alloc)))
             clear ho9))
      all_goals
        have HNX := Lib.hid (HON.out.trans hO9)
        clear hO9 a0 a1 a2 a3 a4 a5 b0 b1 b2 b3 b4 b5
        go_wp2_with fail
        go_roundw
        case rel => exact ⟨k + 1, hkn, by go_num, HNX.out⟩
        case measure => simp [intOf]; omega
    · have hke : k = n := by omega
      subst hke
      have hk1 : ¬ (k : Int) < (k : Int) := by omega
      have HON := Lib.hid hon
      clear hkn hk hon
      go_wp2_with fail
      go_ret
      exact ⟨rfl, HON.out⟩
end Go.Proofs.YtebjclmbacmilaaGreatDoor

namespace Go.Proofs.YtebjclmbacmilaaGreatDoor
open Go.RowKit

set_option maxRecDepth 100000 in
set_option maxHeartbeats 3200000 in
theorem sameHist_any (cnt : Nat) (created : Int) (s1 s2 g1 g2 n q1 q2 b1 b2 b3 b4 : Nat) (w : World) (hs : (feq s1 s2 || (Fl.isNaN s1 && Fl.isNaN s2)) = true) (hn : n ≤ 1048578) (H : ∀ k, k < n → ∃ cum up, BkAt w g1 k cum up ∧ BkAt w g2 k cum up) :
    Calls Tryz.prog 21 #[.agg #[.int .u64 cnt, .float .f64 s1, .slice (some ⟨g1, 0, none⟩) n q1, .int .i64 created, .bool false, .int .i32 0, .float .f64 0, .int .u64 0, .slice none 0 0, .slice none 0 0, .slice (some ⟨b1, 0, none⟩) 0 0, .slice (some ⟨b2, 0, none⟩) 0 0, .slice none 0 0], .agg #[.int .u64 cnt, .float .f64 s2, .slice (some ⟨g2, 0, none⟩) n q2, .int .i64 created, .bool false, .int .i32 0, .float .f64 0, .int .u64 0, .slice none 0 0, .slice none 0 0, .slice (some ⟨b3, 0, none⟩) 0 0, .slice (some ⟨b4, 0, none⟩) 0 0, .slice none 0 0]] w fun e w' => e = .returned (.bool true) ∧ Only (fun _ => False) w w' := by
  have HB : Hid (∀ wx, Only (fun _ => False) w wx → Calls Tryz.prog 44 #[.slice (some ⟨g1, 0, none⟩) n q1, .slice (some ⟨g2, 0, none⟩) n q2] wx fun e w' => e = .returned (.bool true) ∧ Only (fun _ => False) wx w') := Lib.hid (fun wx ho => sameBuckets_any g1 g2 n q1 q2 wx hn (fun k hk => by
    obtain ⟨cum, up, a, b⟩ := H k hk
    exact ⟨cum, up, a.kept ho, b.kept ho⟩))
  have HS := Lib.hid hs
  have HX1 : Hid (IsBlock ((w.alloc (.cells #[.int .u64 cnt, .float .f64 s1, .slice (some ⟨g1, 0, none⟩) n q1, .int .i64 created, .bool false, .int .i32 0, .float .f64 0, .int .u64 0, .slice none 0 0, .slice none 0 0, .slice (some ⟨b1, 0, none⟩) 0 0, .slice (some ⟨b2, 0, none⟩) 0 0, .slice none 0 0] 36)).alloc (.cells #[.int .u64 cnt, .float .f64 s2, .slice (some ⟨g2, 0, none⟩) n q2, .int .i64 created, .bool false, .int .i32 0, .float .f64 0, .int .u64 0, .slice none 0 0, .slice none 0 0, .slice (some ⟨b3, 0, none⟩) 0 0, .slice (some ⟨b4, 0, none⟩) 0 0, .slice none 0 0] 36)) w.heap.size [.int .u64 cnt, .float .f64 s1, .slice (some ⟨g1, 0, none⟩) n q1, .int .i64 created, .bool false, .int .i32 0, .float .f64 0, .int .u64 0, .slice none 0 0, .slice none 0 0, .slice (some ⟨b1, 0, none⟩) 0 0, .slice (some ⟨b2, 0, none⟩) 0 0, .slice none 0 0] ∧ IsBlock ((w.alloc (.cells #[.int .u64 cnt, .float .f64 s1, .slice (some ⟨g1, 0, none⟩) n q1, .int .i64 created, .bool false, .int .i32 0, .float .f64 0, .int .u64 0, .slice none 0 0, .slice none 0 0, .slice (some ⟨b1, 0, none⟩) 0 0, .slice (some ⟨b2, 0, none⟩) 0 0, .slice none 0 0] 36)).alloc (.cells #[.int .u64 cnt, .float .f64 s2, .slice (some ⟨g2, 0, none⟩) n q2, .int .i64 created, .bool false, .int .i32 0, .float .f64 0, .int .u64 0, .slice none 0 0, .slice none 0 0, .slice (some ⟨b3, 0, none⟩) 0 0, .slice (some ⟨b4, 0, none⟩) 0 0, .slice none 0 0] 36)) (w.heap.size + 1) [.int .u64 cnt, .float .f64 s2, .slice (some ⟨g2, 0, none⟩) n q2, .int .i64 created, .bool false, .int .i32 0, .float .f64 0, .int .u64 0, .slice none 0 0, .slice none 0 0, .slice (some ⟨b3, 0, none⟩) 0 0, .slice (some ⟨b4, 0, none⟩) 0 0, .slice none 0 0] ∧ Only (fun _ => False) w ((w.alloc (.cells #[.int .u64 cnt, .float .f64 s1, .slice (some ⟨g1, 0, none⟩) n q1, .int .i64 created, .bool false, .int .i32 0, .float .f64 0, .int .u64 0, .slice none 0 0, .slice none 0 0, .slice (some ⟨b1, 0, none⟩) 0 0, .slice (some ⟨b2, 0, none⟩) 0 0, .slice none 0 0] 36)).alloc (.cells #[.int .u64 cnt, .float .f64 s2, .slice (some ⟨g2, 0, none⟩) n q2, .int .i64 created, .bool false, .int .i32 0, .float .f64 0, .int .u64 0, .slice none 0 0, .slice none 0 0, .slice (some ⟨b3, 0, none⟩) 0 0, .slice (some ⟨b4, 0, none⟩) 0 0, .slice none 0 0] 36))) := Lib.hid ⟨(IsBlock.new w [.int .u64 cnt, .float .f64 s1, .slice (some ⟨g1, 0, none⟩) n q1, .int .i64 created, .bool false, .int .i32 0, .float .f64 0, .int .u64 0, .slice none 0 0, .slice none 0 0, .slice (some ⟨b1, 0, none⟩) 0 0, .slice (some ⟨b2, 0, none⟩) 0 0, .slice none 0 0] 36).alloc _, blk_new _ [.int .u64 cnt, .float .f64 s2, .slice (some ⟨g2, 0, none⟩) n q2, .int .i64 created, .bool false, .int .i32 0, .float .f64 0, .int .u64 0, .slice none 0 0, .slice none 0 0, .slice (some ⟨b3, 0, none⟩) 0 0, .slice (some ⟨b4, 0, none⟩) 0 0, .slice none 0 0] 36 _ (by simp), ((Only.refl _ w).alloc _).alloc _⟩
  clear H hs
  go_enter Tryz.func21, Tryz.ntmps21
  go_wp2_with fail
  refine (sameNum_any s1 s2 _).mono ?_
  rintro e w' ⟨rfl, hw⟩
  rw [hw, HS.out]
  clear hw w'
  go_wp2_with fail
  refine (HB.out _ HX1.out.2.2).mono ?_
  rintro e w2 ⟨rfl, ho⟩
  have HX := Lib.hid (And.intro (ho.isBlock HX1.out.1 id) (And.intro (ho.isBlock HX1.out.2.1 id) (HX1.out.2.2.trans ho)))
  clear ho HB HX1
  have x3 := HX.out.1.cell (i := 3) rfl
  have y3 := HX.out.2.1.cell (i := 3) rfl
  have x4 := HX.out.1.cell (i := 4) rfl
  have y4 := HX.out.2.1.cell (i := 4) rfl
  have x5 := HX.out.1.cell (i := 5) rfl
  have y5 := HX.out.2.1.cell (i := 5) rfl
  have x6 := HX.out.1.cell (i := 6) rfl
  have y6 := HX.out.2.1.cell (i := 6) rfl
  have x7 := HX.out.1.cell (i := 7) rfl
  have y7 := HX.out.2.1.cell (i := 7) rfl
  have x8 := HX.out.1.cell (i := 8) rfl
  have y8 := HX.out.2.1.cell (i := 8) rfl
  have x9 := HX.out.1.cell (i := 9) rfl
  have y9 := HX.out.2.1.cell (i := 9) rfl
  have x10 := HX.out.1.cell (i := 10) rfl
  have y10 := HX.out.2.1.cell (i := 10) rfl
  have x11 := HX.out.1.cell (i := 11) rfl
  have y11 := HX.out.2.1.cell (i := 11) rfl
  have x12 := HX.out.1.cell (i := 12) rfl
  have y12 := HX.out.2.1.cell (i := 12) rfl
  go_wp2_with (first
    | (go_at_call 23; refine (sameNum_same 0 _).mono ?_; rintro e w' ⟨rfl, rfl⟩)
    | (go_at_call 45; refine (sameRuns_nil _).mono ?_; rintro e w' ⟨rfl, rfl⟩)
    | (go_at_call 46; refine (sameDeltas_nil _ _ _ _ _).mono ?_; rintro e w' ⟨rfl, rfl⟩)
    | (go_at_call 47; refine (sameMarks_nil _).mono ?_; rintro e w' ⟨rfl, rfl⟩))
  go_ret
  exact ⟨rfl, HX.out.2.2⟩
end Go.Proofs.YtebjclmbacmilaaGreatDoor
