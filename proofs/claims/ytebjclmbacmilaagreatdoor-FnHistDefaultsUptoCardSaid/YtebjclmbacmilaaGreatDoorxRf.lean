/- The spans of a written native histogram converted; two getters. Conditions: as stated. runsFrom of the laws. Conditions: as stated. -/
import Derived.Test.YtebjclmbacmilaaGreatDoorWn
import Derived.Test.YtebjclmbacmilaaGreatDoorHo
import Derived.Test.YtebjclmbacmilaaGreatDoorxAp
import Derived.Deep.AppendLies
import Derived.Test.YtebjclmbacmilaaGreatDoorZw
namespace Go.Proofs.YtebjclmbacmilaaGreatDoor
open Go.RowKit

theorem info213 : (Tryz.prog.info? 213).map (fun i => (i.zero, i.size, i.bytes)) = some (some (.agg #[.int .i32 0, .int .u32 0]), 2, 8) := by kernel_rfl
def runCells (s : Sp) : List Value := [.int .i32 s.o, .int .u32 s.l]
def runRow (L : List Sp) : List Value := L.flatMap runCells
theorem runRow_snoc (L : List Sp) (k : Nat) (h : k < L.length) : runRow (L.take (k + 1)) = runRow (L.take k) ++ runCells L[k] := by
  unfold runRow
  rw [List.take_succ_eq_append_getElem h, List.flatMap_append]
  simp
theorem one_run (s : Sp) : ∀ u ∈ runCells s, u.oneCell' = true := by
  intro u hu
  simp only [runCells, List.mem_cons, List.mem_nil_iff, or_false] at hu
  rcases hu with rfl | rfl <;> rfl
theorem only_far {a b c : World} {row : Option Nat} (hg : b.grownBy c row) (h : Only (fun _ => False) a b) : Only (fun k => row = some k) a c := (h.mono (fun _ _ e => e.elim)).trans (Only.grown hg)
structure RuRel (w : World) (L : List Sp) (k : Nat) (v : Value) (wr : World) : Prop where
  own : wr.ownsRow w.heap.size 213 2 v k (runRow (L.take k))
  only : Only (fun _ => False) w wr

set_option maxRecDepth 100000 in
set_option maxHeartbeats 1600000 in
theorem runs_any (v : Value) (B : Nat) (L : List Sp) (w : World) (hrow : w.ownsRow B 209 1 v L.length (ptrs L)) (hsp : ∀ s ∈ L, SpanB w B s) (hl : L.length ≤ 536870912) :
    Calls Tryz.prog 80 #[v] w fun e w' => ∃ u, e = .returned u ∧ w'.ownsRow w.heap.size 213 2 u L.length (runRow L) ∧ Only (fun _ => False) w w' := by
  obtain ⟨i0, hi, hz0, hz1, hz2⟩ := info_parts info213
  obtain ⟨va, vc, rfl⟩ := ownsRow_slice hrow
  have hl' : (L.length : Int) ≤ 536870912 := by omega
  have HR := Lib.hid (And.intro hrow (And.intro hsp hl))
  clear hrow hsp hl
  go_enter Tryz.func80, Tryz.ntmps80
  go_wp2_with fail
  go_loopw [3, 8] (fun v i wr => ∃ (k : Nat), k ≤ L.length ∧ i = .int .i64 k ∧ RuRel w L k v wr) (fun _ i _ => L.length - (intOf i).toNat)
  case atStart => exact ⟨0, Nat.zero_le _, rfl, World.ownsRow_nil _ _ _ _, Only.refl _ _⟩
  case round =>
    obtain ⟨k, hk, rfl, hR⟩ := hrel
    obtain ⟨ta, tc, rfl⟩ := ownsRow_slice hR.own
    by_cases hkn : k < L.length
    · have hk0 : (0 : Int) ≤ (k : Int) := by omega
      have hk1 : (k : Int) < (L.length : Int) := by omega
      obtain ⟨g, cap, hv, hgc⟩ := row_cell1 (i := k) (u := .pointer (some ⟨L[k].g, 0, none⟩)) HR.out.1 (by simp [ptrs, hkn])
      simp only [Value.slice.injEq] at hv
      obtain ⟨rfl, _, rfl⟩ := hv
      have hs := HR.out.2.1 L[k] (List.getElem_mem hkn)
      obtain ⟨s, hse⟩ : ∃ s, s = L[k] := ⟨_, rfl⟩
      rw [← hse] at hgc hs
      have hc : wr.cell? ⟨g, k, none⟩ = some (.pointer (some ⟨s.g, 0, none⟩)) := hR.only.cell hgc id
      have s0 : wr.cell? ⟨s.g, 0, none⟩ = some (.pointer (some ⟨s.go, 0, none⟩)) := (hR.only.isBlock hs.g.block id).cell rfl
      have s1 : wr.cell? ⟨s.g, 1, none⟩ = some (.pointer (some ⟨s.gl, 0, none⟩)) := (hR.only.isBlock hs.g.block id).cell rfl
      have so : wr.cell? ⟨s.go, 0, none⟩ = some (.int .i32 s.o) := (hR.only.isBlock hs.go.block id).cell rfl
      have sl : wr.cell? ⟨s.gl, 0, none⟩ = some (.int .u32 s.l) := (hR.only.isBlock hs.gl.block id).cell rfl
      have HRR := Lib.hid hR
      have HS := Lib.hid hse
      have HSP := Lib.hid hs
      clear hR hs hgc hse
      go_wp2_with fail
      go_region_held3 (fun wx => wx.cell? ⟨s.g, 0, none⟩ = some (.pointer (some ⟨s.go, 0, none⟩)) ∧ wx.cell? ⟨s.g, 1, none⟩ = some (.pointer (some ⟨s.gl, 0, none⟩)) ∧ wx.cell? ⟨s.go, 0, none⟩ = some (.int .i32 s.o) ∧ wx.cell? ⟨s.gl, 0, none⟩ = some (.int .u32 s.l))
        (refine ⟨?_, ?_, ?_, ?_⟩ <;> ((try simp only [World.cell?_drew]); repeat (first | assumption | apply cell_past)))
        (first
          | (refine step_append_lies _ (by rfl) _ _ _ (by rfl) w.heap.size 213 i0 _ 2 8 Tryz.underlying89 hi hz0 hz1 hz2 rfl (by omega) (.slice ta k tc) k (runRow (L.take k)) (by rfl) (Only.ownsRow (S := fun _ => False) (w := wr) (by with_reducible (repeat (first | exact Only.refl _ _ | apply Only.drew | apply Only.alloc))) HRR.out.own (fun _ _ => id)) ⟨wr.heap.size, 0, none⟩ 1 1 (runCells s) (by rfl) (by rfl) (cells_of (by first | exact IsBlock.new wr (runCells s) 213 | exact (IsBlock.new wr (runCells s) 213).drew)) (one_run s) (by omega) (by unfold maxLen; omega) (by omega) (by have := HRR.out.only.size; simp; omega) (wr.heap.size + 1) (by simp) ?_
             intro g4 c4 w4 hown4 hgr4 hat4 hlt4
             have hon4 : Only (fun _ => False) w w4 := Only.widen HRR.out.only (only_far hgr4 (by with_reducible (repeat (first | exact Only.refl _ _ | apply Only.drew | apply Only.alloc)))) (fun j hj => (HRR.out.own.lt j hj).1)
             have d0 : w4.cell? ⟨s.g, 0, none⟩ = some (.pointer (some ⟨s.go, 0, none⟩)) := (hon4.isBlock HSP.out.g.block id).cell rfl
             have d1 : w4.cell? ⟨s.g, 1, none⟩ = some (.pointer (some ⟨s.gl, 0, none⟩)) := (hon4.isBlock HSP.out.g.block id).cell rfl
             have d2 : w4.cell? ⟨s.go, 0, none⟩ = some (.int .i32 s.o) := (hon4.isBlock HSP.out.go.block id).cell rfl
             have d3 : w4.cell? ⟨s.gl, 0, none⟩ = some (.int .u32 s.l) := (hon4.isBlock HSP.out.gl.block id).cell rfl))
      all_goals
        have HF : Hid (RuRel w L (k + 1) (.slice (some ⟨g4, 0, none⟩) (k + 1) c4) w4) := Lib.hid ⟨by rw [runRow_snoc _ _ hkn, ← HS.out]; exact hown4, hon4⟩
        clear hown4 hgr4 hat4 hlt4 hon4 d0 d1 d2 d3
        clear hc s0 s1 so sl
        go_wp2_with fail
        go_roundw
        case rel => exact ⟨k + 1, hkn, by go_num, HF.out⟩
        case measure => simp [intOf]; omega
    · have hke : k = L.length := by omega
      subst hke
      have hk1 : ¬ (L.length : Int) < (L.length : Int) := by omega
      have HF : Hid (wr.ownsRow w.heap.size 213 2 (.slice ta L.length tc) L.length (runRow L) ∧ Only (fun _ => False) w wr) := Lib.hid ⟨by have h := hR.own; rw [List.take_of_length_le (Nat.le_refl _)] at h; exact h, hR.only⟩
      clear hR hkn hk
      go_wp2_with fail
      go_ret
      exact ⟨_, rfl, HF.out⟩
theorem getZT_any (g c : Nat) (n : Nat) (w : World) (h0 : w.cell? ⟨g, 5, none⟩ = some (.pointer (some ⟨c, 0, none⟩))) (h1 : w.cell? ⟨c, 0, none⟩ = some (.float .f64 n)) :
    Calls Tryz.prog 78 #[.pointer (some ⟨g, 0, none⟩)] w fun e w' => e = .returned (.float .f64 n) ∧ w' = w := by
  go_enter Tryz.func78, Tryz.ntmps78
  go_wp2
  go_ret
  exact ⟨rfl, rfl⟩
theorem getZC_any (g c : Nat) (n : Int) (w : World) (h0 : w.cell? ⟨g, 6, none⟩ = some (.pointer (some ⟨c, 0, none⟩))) (h1 : w.cell? ⟨c, 0, none⟩ = some (.int .u64 n)) :
    Calls Tryz.prog 79 #[.pointer (some ⟨g, 0, none⟩)] w fun e w' => e = .returned (.int .u64 n) ∧ w' = w := by
  go_enter Tryz.func79, Tryz.ntmps79
  go_wp2
  go_ret
  exact ⟨rfl, rfl⟩
end Go.Proofs.YtebjclmbacmilaaGreatDoor

namespace Go.Proofs.YtebjclmbacmilaaGreatDoor
open Go.RowKit

theorem info159 : (Tryz.prog.info? 159).map (fun i => (i.zero, i.size, i.bytes)) = some (some (.agg #[.int .i32 0, .int .u32 0]), 2, 8) := by kernel_rfl
set_option maxRecDepth 100000 in
theorem runFrom_any (a b : Int) (w : World) : Calls Tryz.prog 98 #[.agg #[.int .i32 a, .int .u32 b]] w fun e w' => e = .returned (.agg #[.int .i32 a, .int .u32 b]) ∧ Only (fun _ => False) w w' := by
  go_enter Tryz.func98, Tryz.ntmps98
  go_wp2_with fail
  refine (?_ : ∀ w9, w9 = _ → bodyPost _ _ _ _ _ w9) _ rfl
  intro w9 h9
  have hb : IsBlock w9 (w.heap.size + 1) [.int .i32 a, .int .u32 b] := by rw [h9]; exact blk_new' _ [.int .i32 a, .int .u32 b] 159 _ (by simp)
  have ho : Only (fun _ => False) w w9 := by rw [h9]; exact ((Only.refl _ w).alloc _).alloc _
  have y0 := hb.cell (i := 0) rfl
  have y1 := hb.cell (i := 1) rfl
  clear h9
  refine bodyPost_ret (v := .agg #[.int .i32 a, .int .u32 b]) (by simp [results, Tryz.results98, go_sem, y0, y1]) rfl ⟨rfl, ho⟩

set_option maxRecDepth 100000 in
set_option maxHeartbeats 1600000 in
theorem runsFrom_any (v : Value) (l : List Sp) (B : Nat) (w : World) (hrow : w.ownsRow B 213 2 v l.length (runRow l)) (hlen : l.length ≤ 536870912) :
    Calls Tryz.prog 85 #[v] w fun e w' => ∃ v', e = .returned v' ∧ w'.ownsRow w.heap.size 159 2 v' l.length (runRow l) ∧ Only (fun _ => False) w w' := by
  obtain ⟨i159, hi, hz0, hz1, hz2⟩ := info_parts info159
  obtain ⟨la, lc, rfl⟩ := ownsRow_slice hrow
  have hlen' : (l.length : Int) ≤ 536870912 := by omega
  have HROW := Lib.hid hrow
  clear hrow
  go_enter Tryz.func85, Tryz.ntmps85
  go_wp2_with fail
  go_loopw [3, 4] (fun v i wr => ∃ (k : Nat), k ≤ l.length ∧ i = .int .i64 k ∧ wr.ownsRow w.heap.size 159 2 v k (runRow (l.take k)) ∧ Only (fun _ => False) w wr) (fun _ i _ => l.length - (intOf i).toNat)
  case atStart => exact ⟨0, Nat.zero_le _, rfl, World.ownsRow_nil _ _ _ _, Only.refl _ _⟩
  case round =>
    obtain ⟨k, hk, rfl, hown, hon⟩ := hrel
    obtain ⟨ta, tc, rfl⟩ := ownsRow_slice hown
    have HOWN := Lib.hid hown
    have HON := Lib.hid hon
    clear hown hon
    by_cases hkn : k < l.length
    · have hk0 : (0 : Int) ≤ (k : Int) := by omega
      have hk1 : (k : Int) < (l.length : Int) := by omega
      obtain ⟨g, rfl, hcells⟩ := row_cells (cl := runCells l[k]) HROW.out hkn HON.out (fun j hj => flat_get runCells 2 (fun _ => rfl) l k j hkn hj)
      obtain ⟨x, hx⟩ : ∃ x, x = l[k] := ⟨_, rfl⟩
      rw [← hx] at hcells
      have k0 : wr.cell? ⟨g, k * 2, none⟩ = some (.int .i32 x.o) := hcells 0 _ rfl
      have k1 : wr.cell? ⟨g, k * 2 + 1, none⟩ = some (.int .u32 x.l) := hcells 1 _ rfl
      have HX := Lib.hid hx
      clear hcells hx
      go_wp2_with fail
      refine (runFrom_any x.o x.l wr).mono ?_
      rintro e w6 ⟨rfl, ho6⟩
      have HO6 := Lib.hid ho6
      have h6 := ho6.ownsRow HOWN.out (fun _ _ => id)
      clear ho6 k0 k1
      go_wp2_with (at_builtin; go_must (refine wpList_append_own _ rfl _ _ 32 rfl w.heap.size 159 i159 _ 2 8 Tryz.underlying32 hi hz0 hz1 hz2 rfl (by decide) _ _ _ rfl (h6.alloc _) ⟨w6.heap.size, 0, none⟩ 1 1 (runCells x) rfl rfl (cells_of (IsBlock.new w6 (runCells x) 159)) ?c1 ?c3 ?c4 ?c5 ?_))
      case c1 =>
        intro u hu
        simp only [runCells, List.mem_cons, List.mem_nil_iff, or_false] at hu
        rcases hu with rfl | rfl <;> rfl
      case c3 => unfold maxLen; omega
      case c4 => omega
      case c5 => have := HON.out.size; have := HO6.out.size; rw [World.size_alloc]; omega
      intro v8 w8 hown8 hgr8 _
      have hrowk : ∀ j, (Value.slice ta k tc).ownBlock = some j → w.heap.size ≤ j := fun j hj => (h6.lt j hj).1
      have hon8 : Only (fun j => (Value.slice ta k tc).ownBlock = some j) w6 w8 := ((Only.refl _ w6).alloc _).trans (Only.grown hgr8)
      have HNX : Hid (w8.ownsRow w.heap.size 159 2 v8 (k + 1) (runRow (l.take (k + 1))) ∧ Only (fun _ => False) w w8) := Lib.hid ⟨by
          have e1 : l.take (k + 1) = l.take k ++ [x] := by rw [List.take_succ_eq_append_getElem hkn, HX.out]
          have e2 : runRow (l.take (k + 1)) = runRow (l.take k) ++ runCells x := by
            rw [e1]; unfold runRow; rw [List.flatMap_append]
            simp only [List.flatMap_cons, List.flatMap_nil, List.append_nil]
          rw [e2]; exact hown8, Only.widen (HON.out.trans HO6.out) hon8 (fun j hj => hrowk j hj)⟩
      clear hown8 hgr8 hrowk hon8 h6
      go_wp2_with fail
      go_roundw
      case rel => exact ⟨k + 1, hkn, by go_num, HNX.out⟩
      case measure => simp [intOf]; omega
    · have hke : k = l.length := by omega
      subst hke
      have hk1 : ¬ (l.length : Int) < (l.length : Int) := by omega
      have HF : Hid (wr.ownsRow w.heap.size 159 2 (.slice ta l.length tc) l.length (runRow l) ∧ Only (fun _ => False) w wr) := Lib.hid ⟨by have := HOWN.out; rwa [List.take_of_length_le (Nat.le_refl _)] at this, HON.out⟩
      clear hkn hk HOWN HON
      go_wp2_with fail
      go_ret
      exact ⟨_, rfl, HF.out⟩
end Go.Proofs.YtebjclmbacmilaaGreatDoor
