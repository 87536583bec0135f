/- Contract of histOf (the thin package's conversion of a written histogram), classic, without exemplars. Conditions: as stated. -/
import Derived.Test.YtebjclmbacmilaaGreatDoorWr
import Derived.Test.YtebjclmbacmilaaGreatDoorxQ
import Derived.WalkLawsBesides
import Derived.OwnWalk
namespace Go.Proofs.YtebjclmbacmilaaGreatDoor
open Go.RowKit

@[go_sem] theorem run_store_float {P : Program} {w : World} {a : Addr} {m : Mode} (k : FloatKind) (n : Nat) : (store a (.float k n) m).run P w = stored P w a (.float k n) m := run_store P w a _ m rfl

theorem getCount_any (g c : Nat) (n : Int) (w : World) (h0 : w.cell? ⟨g, 0, none⟩ = some (.pointer (some ⟨c, 0, none⟩))) (h1 : w.cell? ⟨c, 0, none⟩ = some (.int .u64 n)) :
    Calls Tryz.prog 75 #[.pointer (some ⟨g, 0, none⟩)] w fun e w' => e = .returned (.int .u64 n) ∧ w' = w := by
  go_enter Tryz.func75, Tryz.ntmps75
  go_wp2
  go_ret
  exact ⟨rfl, rfl⟩
theorem getUpper_any (g c : Nat) (n : Nat) (w : World) (h0 : w.cell? ⟨g, 1, none⟩ = some (.pointer (some ⟨c, 0, none⟩))) (h1 : w.cell? ⟨c, 0, none⟩ = some (.float .f64 n)) :
    Calls Tryz.prog 76 #[.pointer (some ⟨g, 0, none⟩)] w fun e w' => e = .returned (.float .f64 n) ∧ w' = w := by
  go_enter Tryz.func76, Tryz.ntmps76
  go_wp2
  go_ret
  exact ⟨rfl, rfl⟩

/-- A bucket, a list of buckets, a histogram as the thin package has it. -/
def bCells (x : BP) : List Value := [.int .u64 x.cum, .float .f64 x.up, .bool false, .float .f64 0, .slice none 0 0, .int .i64 0]
def bRow (l : List BP) : List Value := l.flatMap bCells
def hVals (cnt sum : Nat) (v : Value) (created : Int) : List Value := [.int .u64 cnt, .float .f64 sum, v, .int .i64 created, .bool false, .int .i32 0, .float .f64 0, .int .u64 0, .slice none 0 0, .slice none 0 0, .slice none 0 0, .slice none 0 0, .slice none 0 0]

theorem info96 : (Tryz.prog.info? 96).map (fun i => (i.zero, i.size, i.bytes)) = some (some (.agg #[.int .u64 0, .float .f64 0, .bool false, .float .f64 0, .slice none 0 0, .int .i64 0]), 6, 64) := by kernel_rfl

/-- Between two rounds of the loop over the buckets. -/
structure HoRel (w : World) (cnt sum : Nat) (bl : List BP) (k : Nat) (v : Value) (wr : World) : Prop where
  hx : IsBlock wr (w.heap.size + 1) (hVals cnt sum v 0)
  h0 : IsBlock wr w.heap.size (hVals 0 0 (.slice none 0 0) 0)
  own : wr.ownsRow (w.heap.size + 2) 96 6 v k (bRow (bl.take k))
  only : Only (fun _ => False) w wr
  size : w.heap.size + 2 ≤ wr.heap.size

theorem ownsRow_lower {w : World} {b b' : Nat} {e : TypeId} {size : Nat} {v : Value} {n : Nat} {xs : List Value} (h : w.ownsRow b e size v n xs) (hb : b' ≤ b) : w.ownsRow b' e size v n xs := by
  obtain ⟨h1, h2⟩ := h
  refine ⟨h1, ?_⟩
  rcases h2 with h2 | ⟨g, cap, cur, hv, hg, r⟩
  · exact .inl h2
  · exact .inr ⟨g, cap, cur, hv, by omega, r⟩
theorem bRow_snoc (l : List BP) (k : Nat) (h : k < l.length) : bRow (l.take (k + 1)) = bRow (l.take k) ++ bCells l[k] := by
  unfold bRow
  rw [List.take_succ_eq_append_getElem h, List.flatMap_append]
  simp

theorem cells_of {w : World} {b : Nat} {cs : List Value} (h : IsBlock w b cs) : ∀ j u, cs[j]? = some u → w.cell? ((⟨b, 0, none⟩ : Addr).add j) = some u := fun j u hj => by
  have := h.cell hj
  cases j <;> simpa [Addr.add] using this
theorem one_bCells (x : BP) : ∀ u ∈ bCells x, u.oneCell' = true := by
  intro u hu
  simp only [bCells, List.mem_cons, List.mem_nil_iff, or_false] at hu
  rcases hu with rfl | rfl | rfl | rfl | rfl | rfl <;> rfl
theorem IsBlock.grown {w w' : World} {b : Nat} {cs : List Value} (h : IsBlock w b cs) {row : Option Nat} (hg : w.grownBy w' row) (hne : ¬ row = some b) : IsBlock w' b cs :=
  h.of_heap (hg.block b h.lt (fun e => hne e.symm))
theorem ownsRow_set {w : World} {base : Nat} {e : TypeId} {size : Nat} {v : Value} {n : Nat} {xs : List Value} (h : w.ownsRow base e size v n xs) (a : Addr) (u : Value) (ha : a.block < base) : (w.setCell a u).ownsRow base e size v n xs := by
  refine (Only.setCell (S := fun k => k = a.block) (Only.refl _ w) (.inl rfl) u).ownsRow h (fun k hk => ?_)
  have := (h.lt k hk).1
  show ¬ k = a.block
  omega

set_option maxRecDepth 100000 in
set_option maxHeartbeats 1600000 in
theorem histOf_plain (q : HisPl) (bl : List BP) (cnt sum : Nat) (created : Int) (A : Nat) (w : World) (D : Done w A q bl cnt sum created) (hm : ∀ x ∈ bl, x.mark = .pointer none) (hl : bl.length ≤ 1048577) :
    Calls Tryz.prog 56 #[.pointer (some ⟨q.g, 0, none⟩)] w fun e w' => ∃ v, e = .returned (.agg (hVals cnt sum v created).toArray) ∧ w'.ownsRow w.heap.size 96 6 v bl.length (bRow bl) ∧ Only (fun _ => False) w w' := by
  have g0 : w.cell? ⟨q.g, 0, none⟩ = some (.pointer (some ⟨q.pc, 0, none⟩)) := D.hg.cell rfl
  have g1 : w.cell? ⟨q.g, 1, none⟩ = some (.pointer (some ⟨q.ps, 0, none⟩)) := D.hg.cell rfl
  have p0 : w.cell? ⟨q.pc, 0, none⟩ = some (.int .u64 cnt) := D.hc.cell rfl
  have p1 : w.cell? ⟨q.ps, 0, none⟩ = some (.float .f64 sum) := D.hs.cell rfl
  obtain ⟨i0, hi, hz0, hz1, hz2⟩ := info_parts info96
  have HD := Lib.hid D
  have HM := Lib.hid hm
  have HL := Lib.hid hl
  clear D hm hl
  go_enter Tryz.func56, Tryz.ntmps56
  go_wp2_with fail
  have k0 := cell_past g0 (Obj.cells (hVals 0 0 (.slice none 0 0) 0).toArray 92)
  have k1 := cell_past g1 (Obj.cells (hVals 0 0 (.slice none 0 0) 0).toArray 92)
  have k2 := cell_past p0 (Obj.cells (hVals 0 0 (.slice none 0 0) 0).toArray 92)
  have k3 := cell_past p1 (Obj.cells (hVals 0 0 (.slice none 0 0) 0).toArray 92)
  have H1 : Hid (IsBlock (w.alloc (Obj.cells (hVals 0 0 (.slice none 0 0) 0).toArray 92)) w.heap.size (hVals 0 0 (.slice none 0 0) 0)) := Lib.hid (IsBlock.new w _ 92)
  have O1 : Hid (Only (fun _ => False) w (w.alloc (Obj.cells (hVals 0 0 (.slice none 0 0) 0).toArray 92))) := Lib.hid ((Only.refl _ _).alloc _)
  have Z1 : Hid ((w.alloc (Obj.cells (hVals 0 0 (.slice none 0 0) 0).toArray 92)).heap.size = w.heap.size + 1) := Lib.hid (World.size_alloc _ _)
  refine (?_ : ∀ w1, w1 = w.alloc (Obj.cells (hVals 0 0 (.slice none 0 0) 0).toArray 92) → Code.wp _ _ _ _ w1) _ rfl
  intro w1 hw1
  rw [← hw1] at k0 k1 k2 k3 H1 O1 Z1
  clear hw1 g0 g1 p0 p1
  go_cut [3] from 9 to 17 (fun v wx => v = .pointer (some ⟨w.heap.size + 1, 0, none⟩) ∧ HoRel w cnt sum bl 0 (.slice none 0 0) wx)
  case first =>
    go_region_held3 (fun wx => wx.cell? ⟨q.g, 0, none⟩ = some (.pointer (some ⟨q.pc, 0, none⟩)) ∧ wx.cell? ⟨q.g, 1, none⟩ = some (.pointer (some ⟨q.ps, 0, none⟩)) ∧ wx.cell? ⟨q.pc, 0, none⟩ = some (.int .u64 cnt) ∧ wx.cell? ⟨q.ps, 0, none⟩ = some (.float .f64 sum))
      (refine ⟨?_, ?_, ?_, ?_⟩ <;> (simp only [World.cell?_drew]; repeat (first | assumption | apply cell_past)))
      (first | (go_at_call 75; refine (getCount_any q.g q.pc cnt _ ?_ ?_).mono ?_; (simp [*]); (simp [*]); rintro e w' ⟨rfl, rfl⟩))
    all_goals
      go_wp2_with fail
      go_meet
      refine ⟨by rw [Z1.out], ⟨?_, (H1.out.alloc _).drew, World.ownsRow_nil _ _ _ _, (O1.out.alloc _).drew, by show _ ≤ (w1.alloc _).heap.size; rw [World.size_alloc, Z1.out]; omega⟩⟩
      have h := (IsBlock.new w1 (hVals cnt sum (.slice none 0 0) 0) 92).drew
      rw [Z1.out] at h
      exact h
  obtain ⟨rfl, hR⟩ := hcut
  have D1 := HD.out.mono hR.only (fun _ h => h.elim)
  have k0 : wc.cell? ⟨q.g, 2, none⟩ = some (.slice (some ⟨q.arr, 0, none⟩) bl.length bl.length) := D1.hg.cell rfl
  have HR0 := Lib.hid hR
  clear hR D1 H1 O1 Z1
  have hbl' : (bl.length : Int) ≤ 1048577 := by have := HL.out; omega
  go_wp2_with fail
  go_loopw [23] (fun i wr => ∃ (k : Nat) (v : Value), k ≤ bl.length ∧ i = .int .i64 k ∧ HoRel w cnt sum bl k v wr) (fun i _ => bl.length - (intOf i).toNat)
  case atStart => exact ⟨0, _, Nat.zero_le _, rfl, HR0.out⟩
  case round =>
    obtain ⟨k, v, hk, rfl, hR⟩ := hrel
    have HR := Lib.hid hR
    clear hR
    by_cases hkn : k < bl.length
    · have hk0 : (0 : Int) ≤ (k : Int) := by omega
      have hk1 : (k : Int) < (bl.length : Int) := by omega
      have DR := HD.out.mono HR.out.only (fun _ h => h.elim)
      obtain ⟨x, hx⟩ : ∃ x, x = bl[k] := ⟨_, rfl⟩
      have hin : BIn wr A x := DR.ins x (by rw [hx]; exact List.getElem_mem hkn)
      have ca : wr.cell? ⟨q.arr, k, none⟩ = some (.pointer (some ⟨x.b, 0, none⟩)) := DR.ha.cell (by rw [List.getElem?_map, List.getElem?_eq_getElem hkn, ← hx]; rfl)
      have xm : x.mark = .pointer none := HM.out x (by rw [hx]; exact List.getElem_mem hkn)
      have b0 : wr.cell? ⟨x.b, 0, none⟩ = some (.pointer (some ⟨x.c, 0, none⟩)) := hin.hb.cell rfl
      have b1 : wr.cell? ⟨x.b, 1, none⟩ = some (.pointer (some ⟨x.u, 0, none⟩)) := hin.hb.cell rfl
      have b2 : wr.cell? ⟨x.b, 2, none⟩ = some (.pointer none) := by rw [← xm]; exact hin.hb.cell rfl
      have c0 : wr.cell? ⟨x.c, 0, none⟩ = some (.int .u64 x.cum) := hin.hc.cell rfl
      have u0 : wr.cell? ⟨x.u, 0, none⟩ = some (.float .f64 x.up) := hin.hu.cell rfl
      have HX := Lib.hid hx
      clear DR hx xm hin
      go_wp2_with fail
      go_cut [6] from 27 to 35 (fun v6 wx => v6 = .pointer (some ⟨wr.heap.size, 0, none⟩) ∧ wx = (wr.alloc (.cells (bCells x).toArray 96)).drew)
      case first =>
        go_region_held3 (fun wx => wx.cell? ⟨x.b, 0, none⟩ = some (.pointer (some ⟨x.c, 0, none⟩)) ∧ wx.cell? ⟨x.b, 1, none⟩ = some (.pointer (some ⟨x.u, 0, none⟩)) ∧ wx.cell? ⟨x.c, 0, none⟩ = some (.int .u64 x.cum) ∧ wx.cell? ⟨x.u, 0, none⟩ = some (.float .f64 x.up))
          (refine ⟨?_, ?_, ?_, ?_⟩ <;> (simp only [World.cell?_drew]; repeat (first | assumption | apply cell_past)))
          (first | (go_at_call 76; refine (getUpper_any x.b x.u x.up _ ?_ ?_).mono ?_; (simp [*]); (simp [*]); rintro e w' ⟨rfl, rfl⟩))
        all_goals
          go_wp2_with fail
          go_meet
          exact ⟨rfl, rfl⟩
      obtain ⟨rfl, hwx⟩ := hcut
      have m2 : wc.cell? ⟨x.b, 2, none⟩ = some (.pointer none) := by rw [hwx]; exact cell_past b2 _
      have HX5 : Hid (IsBlock wc (w.heap.size + 1) (hVals cnt sum v 0)) := Lib.hid (by rw [hwx]; exact (HR.out.hx.alloc _).drew)
      have HY5 : Hid (IsBlock wc wr.heap.size (bCells x)) := Lib.hid (by rw [hwx]; exact (IsBlock.new wr (bCells x) 96).drew)
      have HO5 : Hid (wc.ownsRow (w.heap.size + 2) 96 6 v k (bRow (bl.take k))) := Lib.hid (by rw [hwx]; exact (HR.out.own.alloc _))
      have HH5 : Hid (IsBlock wc w.heap.size (hVals 0 0 (.slice none 0 0) 0)) := Lib.hid (by rw [hwx]; exact (HR.out.h0.alloc _).drew)
      have HL5 : Hid (Only (fun _ => False) w wc) := Lib.hid (by rw [hwx]; exact (HR.out.only.alloc _).drew)
      have HZ5 : Hid (w.heap.size + 2 ≤ wc.heap.size) := Lib.hid (by rw [hwx]; have := HR.out.size; show _ ≤ (wr.alloc _).heap.size; rw [World.size_alloc]; omega)
      obtain ⟨va, vc, hv⟩ := ownsRow_slice HR.out.own
      rw [hv] at HX5 HO5
      have x2 : wc.cell? ⟨w.heap.size + 1, 2, none⟩ = some (.slice va k vc) := HX5.out.cell rfl
      have y0 : wc.cell? ⟨wr.heap.size, 0, none⟩ = some (.int .u64 x.cum) := HY5.out.cell rfl
      have y1 : wc.cell? ⟨wr.heap.size, 1, none⟩ = some (.float .f64 x.up) := HY5.out.cell rfl
      have y2 : wc.cell? ⟨wr.heap.size, 2, none⟩ = some (.bool false) := HY5.out.cell rfl
      have y3 : wc.cell? ⟨wr.heap.size, 3, none⟩ = some (.float .f64 0) := HY5.out.cell rfl
      have y4 : wc.cell? ⟨wr.heap.size, 4, none⟩ = some (.slice none 0 0) := HY5.out.cell rfl
      have y5 : wc.cell? ⟨wr.heap.size, 5, none⟩ = some (.int .i64 0) := HY5.out.cell rfl
      clear hwx b0 b1 b2 c0 u0 ca hv
      go_wp2_with (at_builtin; go_must (refine wpList_append_own _ rfl _ _ 88 rfl (w.heap.size + 2) 96 i0 _ 6 64 Tryz.underlying88 hi hz0 hz1 hz2 rfl (by decide) _ _ _ rfl (HO5.out.alloc _) ⟨wc.heap.size, 0, none⟩ 1 1 (bCells x) rfl rfl ?c1 ?c2 ?c3 ?c4 ?c5 ?_))
      case c1 => exact cells_of (IsBlock.new wc (bCells x) 96)
      case c2 => exact one_bCells x
      case c3 => unfold maxLen; omega
      case c4 => have := HL.out; omega
      case c5 => have := HZ5.out; rw [World.size_alloc]; omega
      intro v' w6 hown hgr _
      have hrow : ∀ j, (Value.slice va k vc).ownBlock = some j → w.heap.size + 2 ≤ j := fun j hj => (HO5.out.lt j hj).1
      have HX6 : IsBlock w6 (w.heap.size + 1) (hVals cnt sum (.slice va k vc) 0) := (HX5.out.alloc _).grown hgr (fun e => by have := hrow _ e; omega)
      have HH6 : IsBlock w6 w.heap.size (hVals 0 0 (.slice none 0 0) 0) := (HH5.out.alloc _).grown hgr (fun e => by have := hrow _ e; omega)
      have HL6 : Only (fun _ => False) w w6 := Only.widen (HL5.out.alloc _) (Only.grown hgr) (fun j hj => by have := hrow j hj; omega)
      have hs6 := hgr.size
      rw [World.size_alloc] at hs6
      obtain ⟨va', vc', hv'⟩ := ownsRow_slice hown
      rw [hv'] at hown
      have HF : Hid (HoRel w cnt sum bl (k + 1) (.slice va' (k + 1) vc') (w6.setCell ⟨w.heap.size + 1, 2, none⟩ (.slice va' (k + 1) vc'))) := Lib.hid {
        hx := HX6.set 2 _
        h0 := HH6.set_ne (a := ⟨w.heap.size + 1, 2, none⟩) (by show w.heap.size ≠ w.heap.size + 1; omega) _
        own := by
          rw [bRow_snoc _ _ hkn, ← HX.out]
          exact ownsRow_set hown _ _ (by show w.heap.size + 1 < _; omega)
        only := HL6.setCell (.inr (by show _ ≤ w.heap.size + 1; omega)) _
        size := by have := HZ5.out; simp; omega }
      have x2 : w6.cell? ⟨w.heap.size + 1, 2, none⟩ = some (.slice va k vc) := HX6.cell rfl
      have f2 := HX6.free 2
      rw [hv']
      clear hown hgr hrow HX6 HH6 HL6 hs6 hv' y0 y1 y2 y3 y4 y5 m2
      go_wp2_with fail
      go_roundw
      case rel => exact ⟨k + 1, _, hkn, by go_num, HF.out⟩
      case measure => simp [intOf]; omega
    · have hke : k = bl.length := by omega
      subst hke
      have hk1 : ¬ (bl.length : Int) < (bl.length : Int) := by omega
      clear hkn hk
      have DR := HD.out.mono HR.out.only (fun _ h => h.elim)
      have g3 : wr.cell? ⟨q.g, 3, none⟩ = some (.pointer (some ⟨q.pt, 0, none⟩)) := DR.hg.cell rfl
      have t0 : wr.cell? ⟨q.pt, 0, none⟩ = some (.int .i64 created) := DR.ht.cell rfl
      have x3 : wr.cell? ⟨w.heap.size + 1, 3, none⟩ = some (.int .i64 0) := HR.out.hx.cell rfl
      have f3 := HR.out.hx.free 3
      have hne : ¬ q.g = w.heap.size + 1 := by have := HD.out.hg.lt; omega
      have g4 : (wr.setCell ⟨w.heap.size + 1, 3, none⟩ (.int .i64 created)).cell? ⟨q.g, 4, none⟩ = some (.pointer none) := (DR.hg.set_ne (a := ⟨w.heap.size + 1, 3, none⟩) hne _).cell rfl
      have HX := HR.out.hx.set 3 (.int .i64 created)
      have hx : IsBlock (wr.setCell ⟨w.heap.size + 1, 3, none⟩ (.int .i64 created)) (w.heap.size + 1) (hVals cnt sum v created) := HX
      have h0 : IsBlock (wr.setCell ⟨w.heap.size + 1, 3, none⟩ (.int .i64 created)) w.heap.size (hVals 0 0 (.slice none 0 0) 0) := HR.out.h0.set_ne (a := ⟨w.heap.size + 1, 3, none⟩) (by show w.heap.size ≠ w.heap.size + 1; omega) _
      obtain ⟨va, vc, hv⟩ := ownsRow_slice HR.out.own
      have hown : (wr.setCell ⟨w.heap.size + 1, 3, none⟩ (.int .i64 created)).ownsRow (w.heap.size + 2) 96 6 v bl.length (bRow bl) := by
        have h := HR.out.own
        rw [List.take_of_length_le (Nat.le_refl _)] at h
        exact ownsRow_set h _ _ (by show w.heap.size + 1 < _; omega)
      have HOL : Hid (Only (fun _ => False) w (wr.setCell ⟨w.heap.size + 1, 3, none⟩ (.int .i64 created))) := Lib.hid (HR.out.only.setCell (.inr (by show _ ≤ w.heap.size + 1; omega)) _)
      have HOW := Lib.hid hown
      have HXX := Lib.hid hx
      have HH0 := Lib.hid h0
      have HV := Lib.hid hv
      clear DR HX hown hx h0 hv
      go_upto_region 21 with fail
      refine (?_ : ∀ w9, w9 = wr.setCell ⟨w.heap.size + 1, 3, none⟩ (.int .i64 created) → Code.wp _ _ _ _ w9) _ rfl
      intro w9 hw9
      rw [← hw9] at HOL HOW HXX HH0
      clear hw9 g3 t0 x3 f3 g4 hne
      rw [HV.out] at HXX
      have y0 : w9.cell? ⟨w.heap.size + 1, 0, none⟩ = some (.int .u64 cnt) := HXX.out.cell rfl
      have y1 : w9.cell? ⟨w.heap.size + 1, 1, none⟩ = some (.float .f64 sum) := HXX.out.cell rfl
      have y2 : w9.cell? ⟨w.heap.size + 1, 2, none⟩ = some (.slice va bl.length vc) := HXX.out.cell rfl
      have y3 : w9.cell? ⟨w.heap.size + 1, 3, none⟩ = some (.int .i64 created) := HXX.out.cell rfl
      have y4 : w9.cell? ⟨w.heap.size + 1, 4, none⟩ = some (.bool false) := HXX.out.cell rfl
      have y5 : w9.cell? ⟨w.heap.size + 1, 5, none⟩ = some (.int .i32 0) := HXX.out.cell rfl
      have y6 : w9.cell? ⟨w.heap.size + 1, 6, none⟩ = some (.float .f64 0) := HXX.out.cell rfl
      have y7 : w9.cell? ⟨w.heap.size + 1, 7, none⟩ = some (.int .u64 0) := HXX.out.cell rfl
      have y8 : w9.cell? ⟨w.heap.size + 1, 8, none⟩ = some (.slice none 0 0) := HXX.out.cell rfl
      have y9 : w9.cell? ⟨w.heap.size + 1, 9, none⟩ = some (.slice none 0 0) := HXX.out.cell rfl
      have y10 : w9.cell? ⟨w.heap.size + 1, 10, none⟩ = some (.slice none 0 0) := HXX.out.cell rfl
      have y11 : w9.cell? ⟨w.heap.size + 1, 11, none⟩ = some (.slice none 0 0) := HXX.out.cell rfl
      have y12 : w9.cell? ⟨w.heap.size + 1, 12, none⟩ = some (.slice none 0 0) := HXX.out.cell rfl
      have z0 : w9.cell? ⟨w.heap.size, 0, none⟩ = some (.int .u64 0) := HH0.out.cell rfl
      have z1 : w9.cell? ⟨w.heap.size, 1, none⟩ = some (.float .f64 0) := HH0.out.cell rfl
      have z2 : w9.cell? ⟨w.heap.size, 2, none⟩ = some (.slice none 0 0) := HH0.out.cell rfl
      have z3 : w9.cell? ⟨w.heap.size, 3, none⟩ = some (.int .i64 0) := HH0.out.cell rfl
      have z4 : w9.cell? ⟨w.heap.size, 4, none⟩ = some (.bool false) := HH0.out.cell rfl
      have z5 : w9.cell? ⟨w.heap.size, 5, none⟩ = some (.int .i32 0) := HH0.out.cell rfl
      have z6 : w9.cell? ⟨w.heap.size, 6, none⟩ = some (.float .f64 0) := HH0.out.cell rfl
      have z7 : w9.cell? ⟨w.heap.size, 7, none⟩ = some (.int .u64 0) := HH0.out.cell rfl
      have z8 : w9.cell? ⟨w.heap.size, 8, none⟩ = some (.slice none 0 0) := HH0.out.cell rfl
      have z9 : w9.cell? ⟨w.heap.size, 9, none⟩ = some (.slice none 0 0) := HH0.out.cell rfl
      have z10 : w9.cell? ⟨w.heap.size, 10, none⟩ = some (.slice none 0 0) := HH0.out.cell rfl
      have z11 : w9.cell? ⟨w.heap.size, 11, none⟩ = some (.slice none 0 0) := HH0.out.cell rfl
      have z12 : w9.cell? ⟨w.heap.size, 12, none⟩ = some (.slice none 0 0) := HH0.out.cell rfl
      have zf := HH0.out.free
      go_wp2_with fail
      refine (?_ : ∀ w10, w10 = _ → bodyPost _ _ _ _ _ w10) _ rfl
      intro w10 h10
      have HB : IsBlock w10 w.heap.size (hVals cnt sum (.slice va bl.length vc) created) := by rw [h10]; exact (((((((((((((HH0.out.set 0 _).set 1 _).set 2 _).set 3 _).set 4 _).set 5 _).set 6 _).set 7 _).set 8 _).set 9 _).set 10 _).set 11 _).set 12 _)
      have HO : Only (fun _ => False) w w10 := by rw [h10]; exact (((((((((((((HOL.out.setCell (.inr (Nat.le_refl _)) _).setCell (.inr (Nat.le_refl _)) _).setCell (.inr (Nat.le_refl _)) _).setCell (.inr (Nat.le_refl _)) _).setCell (.inr (Nat.le_refl _)) _).setCell (.inr (Nat.le_refl _)) _).setCell (.inr (Nat.le_refl _)) _).setCell (.inr (Nat.le_refl _)) _).setCell (.inr (Nat.le_refl _)) _).setCell (.inr (Nat.le_refl _)) _).setCell (.inr (Nat.le_refl _)) _).setCell (.inr (Nat.le_refl _)) _).setCell (.inr (Nat.le_refl _)) _)
      have HW : w10.ownsRow (w.heap.size + 2) 96 6 v bl.length (bRow bl) := by rw [h10]; exact (ownsRow_set (ownsRow_set (ownsRow_set (ownsRow_set (ownsRow_set (ownsRow_set (ownsRow_set (ownsRow_set (ownsRow_set (ownsRow_set (ownsRow_set (ownsRow_set (ownsRow_set HOW.out _ _ (by show w.heap.size < _; omega)) _ _ (by show w.heap.size < _; omega)) _ _ (by show w.heap.size < _; omega)) _ _ (by show w.heap.size < _; omega)) _ _ (by show w.heap.size < _; omega)) _ _ (by show w.heap.size < _; omega)) _ _ (by show w.heap.size < _; omega)) _ _ (by show w.heap.size < _; omega)) _ _ (by show w.heap.size < _; omega)) _ _ (by show w.heap.size < _; omega)) _ _ (by show w.heap.size < _; omega)) _ _ (by show w.heap.size < _; omega)) _ _ (by show w.heap.size < _; omega))
      clear h10 y0 y1 y2 y3 y4 y5 y6 y7 y8 y9 y10 y11 y12 z0 z1 z2 z3 z4 z5 z6 z7 z8 z9 z10 z11 z12 zf
      have y0 : w10.cell? ⟨w.heap.size, 0, none⟩ = some (.int .u64 cnt) := HB.cell rfl
      have y1 : w10.cell? ⟨w.heap.size, 1, none⟩ = some (.float .f64 sum) := HB.cell rfl
      have y2 : w10.cell? ⟨w.heap.size, 2, none⟩ = some (.slice va bl.length vc) := HB.cell rfl
      have y3 : w10.cell? ⟨w.heap.size, 3, none⟩ = some (.int .i64 created) := HB.cell rfl
      have y4 : w10.cell? ⟨w.heap.size, 4, none⟩ = some (.bool false) := HB.cell rfl
      have y5 : w10.cell? ⟨w.heap.size, 5, none⟩ = some (.int .i32 0) := HB.cell rfl
      have y6 : w10.cell? ⟨w.heap.size, 6, none⟩ = some (.float .f64 0) := HB.cell rfl
      have y7 : w10.cell? ⟨w.heap.size, 7, none⟩ = some (.int .u64 0) := HB.cell rfl
      have y8 : w10.cell? ⟨w.heap.size, 8, none⟩ = some (.slice none 0 0) := HB.cell rfl
      have y9 : w10.cell? ⟨w.heap.size, 9, none⟩ = some (.slice none 0 0) := HB.cell rfl
      have y10 : w10.cell? ⟨w.heap.size, 10, none⟩ = some (.slice none 0 0) := HB.cell rfl
      have y11 : w10.cell? ⟨w.heap.size, 11, none⟩ = some (.slice none 0 0) := HB.cell rfl
      have y12 : w10.cell? ⟨w.heap.size, 12, none⟩ = some (.slice none 0 0) := HB.cell rfl
      refine bodyPost_ret (v := .agg (hVals cnt sum (.slice va bl.length vc) created).toArray) (by simp [results, Tryz.results56, go_sem, y0, y1, y2, y3, y4, y5, y6, y7, y8, y9, y10, y11, y12, hVals]) rfl ⟨v, by rw [HV.out], ownsRow_lower HW (by omega), HO⟩
end Go.Proofs.YtebjclmbacmilaaGreatDoor
