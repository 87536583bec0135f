/- newHistogram with native buckets (the factor 2) and no bounds. Conditions: as stated. -/
import Derived.Test.YtebjclmbacmilaaGreatDoorPs
import Derived.Test.YtebjclmbacmilaaGreatDoorxNi
import Derived.Test.YtebjclmbacmilaaGreatDoorWq
namespace Go.Proofs.YtebjclmbacmilaaGreatDoor
open Go.RowKit

theorem info178 : (Tryz.prog.info? 178).map (fun i => (i.zero, i.size, i.bytes)) = some (some (.pointer none), 1, 8) := by kernel_rfl
theorem make_exs (w : World) : (Instr.makeSlice 174 (.int .i64 0) (.int .i64 10)).run Tryz.prog w = .ok (.slice (some ⟨w.heap.size, 0, none⟩) 0 10) (w.alloc (.cells #[.pointer none, .pointer none, .pointer none, .pointer none, .pointer none, .pointer none, .pointer none, .pointer none, .pointer none, .pointer none] 178)) := by
  obtain ⟨i, hi, hz, hs, hb⟩ := info_parts info178
  have h := run_make (P := Tryz.prog) (w := w) 174 178 i _ Tryz.underlying174 hi hz .i64 .i64 0 10 (by omega) (by omega) (by rw [hb]; omega) (by omega)
  rw [hs] at h
  have e : madeCells (Value.pointer none).cells (Int.toNat 10 * 1) = (List.replicate 10 (Value.pointer none)).toArray := toList_made (.pointer none) 10
  rw [e] at h
  exact h
set_option maxRecDepth 100000 in
theorem nativeEx_any (w : World) : Calls Tryz.prog 105 #[.int .i64 0, .int .i64 0] w fun e w' => e = .returned (.agg #[.int .i32 0, .int .u32 0, .int .i64 300000000000, .slice (some ⟨w.heap.size + 1, 0, none⟩) 0 10]) ∧ Only (fun _ => False) w w' := by
  have hmk := make_exs (w.alloc (.cells #[.int .i32 0, .int .u32 0, .int .i64 0, .slice none 0 0] 242))
  go_enter Tryz.func105, Tryz.ntmps105
  go_wp2_with fail
  refine ⟨rfl, .agg #[.int .i32 0, .int .u32 0, .int .i64 300000000000, .slice (some ⟨w.heap.size + 1, 0, none⟩) 0 10], ?_, rfl, ((Only.refl _ w).alloc _).alloc _⟩
  refine results_cell_row (p := 4) (ty := 242) rfl _ _ w.heap.size 242 #[.int .i32 0, .int .u32 0, .int .i64 300000000000, .slice (some ⟨w.heap.size + 1, 0, none⟩) 0 10] (0, 0) _ rfl ?_ Tryz.underlying242 rfl (by kernel_rfl)
  rw [get_old _ _ _ (by simp)]
  exact get_new _ _ _ rfl
/-- The state of a new native histogram. -/
def newN (t0 : Int) (xb : Nat) : HSt :=
  { n := 0, hot := false, c := fun _ => ⟨0, 0, 0, 4030721666496593920, 0, 0, [], none, none⟩, bounds := [], marks := [.nilIface], sch := 0, zt := 4030721666496593920, maxZero := 0, maxB := 0, minReset := 0, last := t0, sched := false, ttl := 300000000000, nex := .slice (some ⟨xb, 0, none⟩) 0 10 }
structure NewNAt (w w' : World) (d ck : Nat) (p : Pl) : Prop where
  own : p.h ≥ w.heap.size ∧ (∀ i, p.c i ≥ w.heap.size) ∧ p.ex ≥ w.heap.size
  desc : p.desc = .pointer (some ⟨d, 0, none⟩)
  now : p.now = .func (.func 70) #[.pointer (some ⟨ck, 0, none⟩)] #[]
  labels : p.labels = .slice none 0 0
  only : Only (fun _ => False) w w'

set_option maxRecDepth 100000 in
set_option maxHeartbeats 1600000 in
theorem newHistogram_nat (d nb pb ck : Nat) (dcs : List Value) (t0 : Int) (w : World)
    (h3 : dcs[3]? = some (.slice (some ⟨pb, 0, none⟩) 0 0)) (h4 : dcs[4]? = some (.pointer (some ⟨nb, 0, none⟩))) (hd : IsBlock w d dcs) (hn : IsBlock w nb [.slice none 0 0, .map none]) (hck : w.cell? ⟨ck, 0, none⟩ = some (.int .i64 t0)) :
    Calls Tryz.prog 88 #[.pointer (some ⟨d, 0, none⟩), .agg #[.string ⟨#[]⟩, .string ⟨#[]⟩, .string ⟨#[104]⟩, .string ⟨#[]⟩, .string ⟨#[]⟩, .map none, (.slice none 0 0), .float .f64 4611686018427387904, .float .f64 0, .int .u32 0, .int .i64 0, .float .f64 0, .int .i64 0, .int .i64 0, .func (.func 70) #[.pointer (some ⟨ck, 0, none⟩)] #[], .func (.func 71) #[.pointer (some ⟨ck, 0, none⟩)] #[]], .slice none 0 0] w
      fun e w' => ∃ p xb, e = .returned (.iface 227 (.pointer (some ⟨p.h, 0, none⟩))) ∧ NHIn w' p (newN t0 xb) (fun _ _ => False) 0 ∧ NewNAt w w' d ck p := by
  have dl := (hd.alloc (Obj.cells #[.string ⟨#[]⟩, .string ⟨#[]⟩, .string ⟨#[104]⟩, .string ⟨#[]⟩, .string ⟨#[]⟩, .map none, (.slice none 0 0), .float .f64 4611686018427387904, .float .f64 0, .int .u32 0, .int .i64 0, .float .f64 0, .int .i64 0, .int .i64 0, .func (.func 70) #[.pointer (some ⟨ck, 0, none⟩)] #[], .func (.func 71) #[.pointer (some ⟨ck, 0, none⟩)] #[]] 121))
  have nl := (hn.alloc (Obj.cells #[.string ⟨#[]⟩, .string ⟨#[]⟩, .string ⟨#[104]⟩, .string ⟨#[]⟩, .string ⟨#[]⟩, .map none, (.slice none 0 0), .float .f64 4611686018427387904, .float .f64 0, .int .u32 0, .int .i64 0, .float .f64 0, .int .i64 0, .int .i64 0, .func (.func 70) #[.pointer (some ⟨ck, 0, none⟩)] #[], .func (.func 71) #[.pointer (some ⟨ck, 0, none⟩)] #[]] 121))
  have d3 := dl.cell h3
  have d4 := dl.cell h4
  have n0 := nl.cell (i := 0) rfl
  have HD := Lib.hid hd
  have HN := Lib.hid hn
  clear dl nl hd hn
  go_enter Tryz.func88, Tryz.ntmps88
  go_wp2_with fail
  refine wp_loop_rounds 1 ?_
  rw [rounds_succ]
  go_wp2_with fail
  refine wp_loop_rounds 1 ?_
  rw [rounds_succ]
  go_upto_region 15 with fail
  clear d3 d4 n0
  have c3 : w.cell? ⟨d, 3, none⟩ = some _ := HD.out.cell h3
  have c4 : w.cell? ⟨d, 4, none⟩ = some _ := HD.out.cell h4
  have n0 : w.cell? ⟨nb, 0, none⟩ = some _ := HN.out.cell (i := 0) rfl
  have OB : Hid (IsBlock (w.alloc (.cells (oCells ck (.slice none 0 0) (.func (.func 71) #[.pointer (some ⟨ck, 0, none⟩)] #[]) 4611686018427387904 0 0 0 0 0 0).toArray 121)) w.heap.size (oCells ck (.slice none 0 0) (.func (.func 71) #[.pointer (some ⟨ck, 0, none⟩)] #[]) 4611686018427387904 0 0 0 0 0 0)) := Lib.hid (IsBlock.new _ _ _)
  have OO : Hid (Only (fun _ => False) w (w.alloc (.cells (oCells ck (.slice none 0 0) (.func (.func 71) #[.pointer (some ⟨ck, 0, none⟩)] #[]) 4611686018427387904 0 0 0 0 0 0).toArray 121))) := Lib.hid ((Only.refl _ _).alloc _)
  have ld := cell_lt c3
  have ln := cell_lt n0
  have lc := cell_lt hck
  have f1 : (w.alloc (.cells (oCells ck (.slice none 0 0) (.func (.func 71) #[.pointer (some ⟨ck, 0, none⟩)] #[]) 4611686018427387904 0 0 0 0 0 0).toArray 121)).cell? ⟨d, 3, none⟩ = some (.slice (some ⟨pb, 0, none⟩) 0 0) := OO.out.cell c3 id
  have f2 : (w.alloc (.cells (oCells ck (.slice none 0 0) (.func (.func 71) #[.pointer (some ⟨ck, 0, none⟩)] #[]) 4611686018427387904 0 0 0 0 0 0).toArray 121)).cell? ⟨d, 4, none⟩ = some (.pointer (some ⟨nb, 0, none⟩)) := OO.out.cell c4 id
  have f3 : (w.alloc (.cells (oCells ck (.slice none 0 0) (.func (.func 71) #[.pointer (some ⟨ck, 0, none⟩)] #[]) 4611686018427387904 0 0 0 0 0 0).toArray 121)).cell? ⟨nb, 0, none⟩ = some (.slice none 0 0) := OO.out.cell n0 id
  have f4 : (w.alloc (.cells (oCells ck (.slice none 0 0) (.func (.func 71) #[.pointer (some ⟨ck, 0, none⟩)] #[]) 4611686018427387904 0 0 0 0 0 0).toArray 121)).cell? ⟨ck, 0, none⟩ = some (.int .i64 t0) := OO.out.cell hck id
  have g6 : (w.alloc (.cells (oCells ck (.slice none 0 0) (.func (.func 71) #[.pointer (some ⟨ck, 0, none⟩)] #[]) 4611686018427387904 0 0 0 0 0 0).toArray 121)).cell? ⟨w.heap.size, 6, none⟩ = some (.slice none 0 0) := OB.out.cell rfl
  have g9 : (w.alloc (.cells (oCells ck (.slice none 0 0) (.func (.func 71) #[.pointer (some ⟨ck, 0, none⟩)] #[]) 4611686018427387904 0 0 0 0 0 0).toArray 121)).cell? ⟨w.heap.size, 9, none⟩ = some (.int .u32 0) := OB.out.cell rfl
  have g10 : (w.alloc (.cells (oCells ck (.slice none 0 0) (.func (.func 71) #[.pointer (some ⟨ck, 0, none⟩)] #[]) 4611686018427387904 0 0 0 0 0 0).toArray 121)).cell? ⟨w.heap.size, 10, none⟩ = some (.int .i64 0) := OB.out.cell rfl
  have g11 : (w.alloc (.cells (oCells ck (.slice none 0 0) (.func (.func 71) #[.pointer (some ⟨ck, 0, none⟩)] #[]) 4611686018427387904 0 0 0 0 0 0).toArray 121)).cell? ⟨w.heap.size, 11, none⟩ = some (.float .f64 0) := OB.out.cell rfl
  have g14 : (w.alloc (.cells (oCells ck (.slice none 0 0) (.func (.func 71) #[.pointer (some ⟨ck, 0, none⟩)] #[]) 4611686018427387904 0 0 0 0 0 0).toArray 121)).cell? ⟨w.heap.size, 14, none⟩ = some (.func (.func 70) #[.pointer (some ⟨ck, 0, none⟩)] #[]) := OB.out.cell rfl
  have g15 : (w.alloc (.cells (oCells ck (.slice none 0 0) (.func (.func 71) #[.pointer (some ⟨ck, 0, none⟩)] #[]) 4611686018427387904 0 0 0 0 0 0).toArray 121)).cell? ⟨w.heap.size, 15, none⟩ = some (.func (.func 71) #[.pointer (some ⟨ck, 0, none⟩)] #[]) := OB.out.cell rfl
  generalize hw1 : w.alloc (.cells (oCells ck (.slice none 0 0) (.func (.func 71) #[.pointer (some ⟨ck, 0, none⟩)] #[]) 4611686018427387904 0 0 0 0 0 0).toArray 121) = w1 at *
  change Code.wp _ _ _ _ (w.alloc (.cells (oCells ck (.slice none 0 0) (.func (.func 71) #[.pointer (some ⟨ck, 0, none⟩)] #[]) 4611686018427387904 0 0 0 0 0 0).toArray 121))
  rw [hw1]
  have hs1 : w1.heap.size = w.heap.size + 1 := by rw [← hw1]; simp
  clear hw1 c3 c4 n0
  go_cut [11] from 68 to 88 (fun hv wx => hv = .pointer (some ⟨w.heap.size + 1, 0, none⟩) ∧ IsBlock wx (w.heap.size + 1) (hCells d ck .nilIface (.slice none 0 0) (.func (.func 71) #[.pointer (some ⟨ck, 0, none⟩)] #[]) (.pointer none) (.pointer none) 0 0 0 0 0 t0 (.slice none 0 0) 0 (.slice none 0 0)) ∧ IsBlock wx w.heap.size (oCells ck (.slice none 0 0) (.func (.func 71) #[.pointer (some ⟨ck, 0, none⟩)] #[]) 4611686018427387904 0 0 0 0 0 0) ∧ Only (fun _ => False) w wx)
  case first =>
    go_region_held3 (fun wx => wx.cell? ⟨d, 3, none⟩ = some (.slice (some ⟨pb, 0, none⟩) 0 0) ∧ wx.cell? ⟨d, 4, none⟩ = some (.pointer (some ⟨nb, 0, none⟩)) ∧ wx.cell? ⟨nb, 0, none⟩ = some (.slice none 0 0) ∧ wx.cell? ⟨ck, 0, none⟩ = some (.int .i64 t0) ∧
        wx.cell? ⟨w.heap.size, 6, none⟩ = some (.slice none 0 0) ∧ wx.cell? ⟨w.heap.size, 9, none⟩ = some (.int .u32 0) ∧ wx.cell? ⟨w.heap.size, 10, none⟩ = some (.int .i64 0) ∧ wx.cell? ⟨w.heap.size, 11, none⟩ = some (.float .f64 0) ∧
        wx.cell? ⟨w.heap.size, 14, none⟩ = some (.func (.func 70) #[.pointer (some ⟨ck, 0, none⟩)] #[]) ∧ wx.cell? ⟨w.heap.size, 15, none⟩ = some (.func (.func 71) #[.pointer (some ⟨ck, 0, none⟩)] #[]))
      (refine ⟨?_, ?_, ?_, ?_, ?_, ?_, ?_, ?_, ?_, ?_⟩ <;> (first | assumption | (apply cell_past; assumption) | (simp only [World.cell?_drew, World.cell?_drewN]; repeat (first | assumption | apply cell_past))))
      (first
        | (go_at_call 102; refine (makeLabelPairs_cells d nb pb _ ?_ ?_ ?_).mono ?_; (simp [*]); (simp [*]); (simp [*]); rintro e w' ⟨rfl, k, rfl⟩)
        | (go_at_call 70; refine (now_any ck t0 _ ?_).mono ?_; (simp [*]); rintro e w' ⟨rfl, rfl⟩))
    go_wp2_with fail
    go_meet
    exact ⟨rfl, ⟨244, get_new _ _ _ (by simp [hs1])⟩, (OB.out.drewN _).alloc _, (OO.out.drewN _).alloc _⟩
  obtain ⟨rfl, hH, hO, hW⟩ := hcut
  clear f1 f2 f3 f4 g6 g9 g10 g11 g14 g15 OB OO hs1
  have e1 : (FloatKind.f64.format.order 4611686018427387904 4607182418800017408 == some .lt || FloatKind.f64.format.order 4611686018427387904 4607182418800017408 == some .eq) = false := by decide +kernel
  have e2 : (FloatKind.f64.format.order 0 0 == some .gt) = false := by decide +kernel
  have e3 : (FloatKind.f64.format.order 0 0 == some .eq) = true := by decide +kernel
  have k7 := hH.cell (i := 7) rfl
  have k10 := hH.cell (i := 10) rfl
  have k11 := hH.cell (i := 11) rfl
  have f10 := hH.free 10
  have f11 := hH.free 11
  have o7 := hO.cell (i := 7) rfl
  have o8 := hO.cell (i := 8) rfl
  have HH := Lib.hid (And.intro hH (And.intro hO hW))
  clear hH hO hW hck
  go_upto_region 25 with (go_at_call 104; refine (pickSchema_two _).mono ?_; rintro e w' ⟨rfl, rfl⟩)
  refine (?_ : ∀ w2, w2 = (wc.setCell ⟨w.heap.size + 1, 11, none⟩ (.float .f64 4030721666496593920)).setCell ⟨w.heap.size + 1, 10, none⟩ (.int .i32 0) → Code.wp _ _ _ _ w2) _ rfl
  intro w2 hw2
  have H2 : Hid (IsBlock w2 (w.heap.size + 1) (hCells d ck .nilIface (.slice none 0 0) (.func (.func 71) #[.pointer (some ⟨ck, 0, none⟩)] #[]) (.pointer none) (.pointer none) 0 4030721666496593920 0 0 0 t0 (.slice none 0 0) 0 (.slice none 0 0)) ∧ IsBlock w2 w.heap.size (oCells ck (.slice none 0 0) (.func (.func 71) #[.pointer (some ⟨ck, 0, none⟩)] #[]) 4611686018427387904 0 0 0 0 0 0) ∧ Only (fun _ => False) w w2) := Lib.hid (by
    rw [hw2]
    exact ⟨(HH.out.1.set 11 _).set 10 _, (HH.out.2.1.set_ne (a := ⟨w.heap.size + 1, 11, none⟩) (by show w.heap.size ≠ w.heap.size + 1; omega) _).set_ne (a := ⟨w.heap.size + 1, 10, none⟩) (by show w.heap.size ≠ w.heap.size + 1; omega) _, (HH.out.2.2.setCell (.inr (by show _ ≤ w.heap.size + 1; omega)) _).setCell (.inr (by show _ ≤ w.heap.size + 1; omega)) _⟩)
  clear hw2 k7 k10 k11 f10 f11 o7 o8 HH
  have o13 := H2.out.2.1.cell (i := 13) rfl
  have o12 := H2.out.2.1.cell (i := 12) rfl
  go_upto_region 26 with (go_at_call 105; refine (nativeEx_any _).mono ?_; rintro e w3 ⟨rfl, ho3⟩; have hh3 := ho3.isBlock H2.out.1 id; have k17 := hh3.cell (i := 17) rfl; have k18 := hh3.cell (i := 18) rfl; have k19 := hh3.cell (i := 19) rfl; have k20 := hh3.cell (i := 20) rfl; have f17 := hh3.free 17; have f18 := hh3.free 18; have f19 := hh3.free 19; have f20 := hh3.free 20)
  refine (?_ : ∀ w4, w4 = (((w3.setCell ⟨w.heap.size + 1, 17, none⟩ (.int .i32 0)).setCell ⟨w.heap.size + 1, 18, none⟩ (.int .u32 0)).setCell ⟨w.heap.size + 1, 19, none⟩ (.int .i64 300000000000)).setCell ⟨w.heap.size + 1, 20, none⟩ (.slice (some ⟨w2.heap.size + 1, 0, none⟩) 0 10) → Code.wp _ _ _ _ w4) _ rfl
  intro w4 hw4
  have H4 : Hid (IsBlock w4 (w.heap.size + 1) (hCells d ck (.nilIface) (.slice none 0 0) (.func (.func 71) #[.pointer (some ⟨ck, 0, none⟩)] #[]) (.pointer none) (.pointer none) 0 4030721666496593920 0 0 0 t0 (.slice none 0 0) 300000000000 (.slice (some ⟨w2.heap.size + 1, 0, none⟩) 0 10)) ∧ Only (fun _ => False) w w4 ∧ w.heap.size + 1 < w4.heap.size) := Lib.hid (by
    have hl := hh3.lt
    have ho : Only (fun _ => False) w w4 := by rw [hw4]; exact ((((H2.out.2.2.trans ho3).setCell (.inr (by show _ ≤ w.heap.size + 1; omega)) _).setCell (.inr (by show _ ≤ w.heap.size + 1; omega)) _).setCell (.inr (by show _ ≤ w.heap.size + 1; omega)) _).setCell (.inr (by show _ ≤ w.heap.size + 1; omega)) _
    refine ⟨?_, ho, ?_⟩
    · rw [hw4]; exact (((hh3.set 17 _).set 18 _).set 19 _).set 20 _
    · rw [hw4]; simpa using hl)
  clear hw4 k17 k18 k19 k20 f17 f18 f19 f20 o13 o12 hh3 ho3 H2
  have k7 := H4.out.1.cell (i := 7) rfl
  go_wp2_with fail
  refine wp_loop_rounds 1 ?_
  rw [rounds_succ]
  go_upto_region 35 with fail
  have hmk : ∀ w : World, (Instr.makeSlice 154 (.int .i64 0) (.int .i64 0)).run Tryz.prog w = .ok (.slice (some ⟨w.heap.size, 0, none⟩) 0 0) (w.alloc (.cells #[] 30)) := make_u64s 0 (by decide)
  have HB := Lib.hid ((H4.out.1.alloc (.cells #[] 30)).alloc (.cells #[.int .u64 0, .int .u64 0, .int .u64 0, .int .u64 0, .int .i32 0, .int .u32 0, .slice (some ⟨w4.heap.size, 0, none⟩) 0 0, .map none, .map none] 253))
  have c5 := HB.out.cell (i := 5) rfl
  have f5 := HB.out.free 5
  go_region
  refine (?_ : ∀ w5, w5 = _ → Exit.then _ _ _ _ w5) _ rfl
  intro w5 hw5
  have H5 : Hid (IsBlock w5 (w.heap.size + 1) (hCells d ck (.nilIface) (.slice none 0 0) (.func (.func 71) #[.pointer (some ⟨ck, 0, none⟩)] #[]) (.pointer (some ⟨w4.heap.size + 1, 0, none⟩)) (.pointer none) 0 4030721666496593920 0 0 0 t0 (.slice none 0 0) 300000000000 (.slice (some ⟨w2.heap.size + 1, 0, none⟩) 0 10)) ∧ IsBlock w5 (w4.heap.size + 1) [.int .u64 0, .int .u64 0, .int .u64 0, .int .u64 0, .int .i32 0, .int .u32 0, .slice (some ⟨w4.heap.size, 0, none⟩) 0 0, .map none, .map none] ∧ Only (fun _ => False) w w5 ∧ w5.heap.size = w4.heap.size + 2) := Lib.hid (by
    have hl := H4.out.2.2
    rw [hw5]
    refine ⟨(HB.out.set 5 _).drew, ?_, (((H4.out.2.1.alloc _).alloc _).setCell (.inr (by show _ ≤ w.heap.size + 1; omega)) _).drew, by simp [World.drew]⟩
    have h := IsBlock.new (w4.alloc (.cells #[] 30)) [.int .u64 0, .int .u64 0, .int .u64 0, .int .u64 0, .int .i32 0, .int .u32 0, .slice (some ⟨w4.heap.size, 0, none⟩) 0 0, .map none, .map none] 253
    rw [World.size_alloc] at h
    exact (h.set_ne (a := ⟨w.heap.size + 1, 5, none⟩) (by show w4.heap.size + 1 ≠ w.heap.size + 1; omega) _).drew)
  clear hw5 HB c5 f5 k7 hmk
  have k5 := H5.out.1.cell (i := 5) rfl
  have k11 := H5.out.1.cell (i := 11) rfl
  have c3 := H5.out.2.1.cell (i := 3) rfl
  have f3 := H5.out.2.1.free 3
  go_wp2_with fail
  go_region
  refine (?_ : ∀ w6, w6 = _ → Exit.then _ _ _ _ w6) _ rfl
  intro w6 hw6
  have H6 : Hid (IsBlock w6 (w.heap.size + 1) (hCells d ck (.nilIface) (.slice none 0 0) (.func (.func 71) #[.pointer (some ⟨ck, 0, none⟩)] #[]) (.pointer (some ⟨w4.heap.size + 1, 0, none⟩)) (.pointer none) 0 4030721666496593920 0 0 0 t0 (.slice none 0 0) 300000000000 (.slice (some ⟨w2.heap.size + 1, 0, none⟩) 0 10)) ∧ IsBlock w6 (w4.heap.size + 1) [.int .u64 0, .int .u64 0, .int .u64 0, .int .u64 4030721666496593920, .int .i32 0, .int .u32 0, .slice (some ⟨w4.heap.size, 0, none⟩) 0 0, .map none, .map none] ∧ Only (fun _ => False) w w6 ∧ w6.heap.size = w4.heap.size + 2) := Lib.hid (by
    have hl := H4.out.2.2
    rw [hw6]
    exact ⟨(H5.out.1.set_ne (a := ⟨w4.heap.size + 1, 3, none⟩) (by show w.heap.size + 1 ≠ w4.heap.size + 1; omega) _).drew, (H5.out.2.1.set 3 _).drew, (H5.out.2.2.1.setCell (.inr (by show _ ≤ w4.heap.size + 1; omega)) _).drew, by simpa [World.drew] using H5.out.2.2.2⟩)
  clear hw6 H5 k5 k11 c3 f3
  have k5 := H6.out.1.cell (i := 5) rfl
  have k10 := H6.out.1.cell (i := 10) rfl
  have c4 := H6.out.2.1.cell (i := 4) rfl
  have f4 := H6.out.2.1.free 4
  go_wp2_with fail
  go_region
  refine (?_ : ∀ w7, w7 = _ → Exit.then _ _ _ _ w7) _ rfl
  intro w7 hw7
  have H7 : Hid (IsBlock w7 (w.heap.size + 1) (hCells d ck (.nilIface) (.slice none 0 0) (.func (.func 71) #[.pointer (some ⟨ck, 0, none⟩)] #[]) (.pointer (some ⟨w4.heap.size + 1, 0, none⟩)) (.pointer none) 0 4030721666496593920 0 0 0 t0 (.slice none 0 0) 300000000000 (.slice (some ⟨w2.heap.size + 1, 0, none⟩) 0 10)) ∧ IsBlock w7 (w4.heap.size + 1) [.int .u64 0, .int .u64 0, .int .u64 0, .int .u64 4030721666496593920, .int .i32 0, .int .u32 0, .slice (some ⟨w4.heap.size, 0, none⟩) 0 0, .map none, .map none] ∧ Only (fun _ => False) w w7 ∧ w7.heap.size = w4.heap.size + 2) := Lib.hid (by
    have hl := H4.out.2.2
    rw [hw7]
    exact ⟨(H6.out.1.set_ne (a := ⟨w4.heap.size + 1, 4, none⟩) (by show w.heap.size + 1 ≠ w4.heap.size + 1; omega) _).drew, (H6.out.2.1.set 4 _).drew, (H6.out.2.2.1.setCell (.inr (by show _ ≤ w4.heap.size + 1; omega)) _).drew, by simpa [World.drew] using H6.out.2.2.2⟩)
  clear hw7 H6 k5 k10 c4 f4
  have hmk : ∀ w : World, (Instr.makeSlice 154 (.int .i64 0) (.int .i64 0)).run Tryz.prog w = .ok (.slice (some ⟨w.heap.size, 0, none⟩) 0 0) (w.alloc (.cells #[] 30)) := make_u64s 0 (by decide)
  have k7 := H7.out.1.cell (i := 7) rfl
  have HB := Lib.hid ((H7.out.1.alloc (.cells #[] 30)).alloc (.cells #[.int .u64 0, .int .u64 0, .int .u64 0, .int .u64 0, .int .i32 0, .int .u32 0, .slice (some ⟨w7.heap.size, 0, none⟩) 0 0, .map none, .map none] 253))
  have c6 := HB.out.cell (i := 6) rfl
  have f6 := HB.out.free 6
  go_wp2_with fail
  go_region
  refine (?_ : ∀ w8, w8 = _ → Exit.then _ _ _ _ w8) _ rfl
  intro w8 hw8
  have H8 : Hid (IsBlock w8 (w.heap.size + 1) (hCells d ck (.nilIface) (.slice none 0 0) (.func (.func 71) #[.pointer (some ⟨ck, 0, none⟩)] #[]) (.pointer (some ⟨w4.heap.size + 1, 0, none⟩)) (.pointer (some ⟨w7.heap.size + 1, 0, none⟩)) 0 4030721666496593920 0 0 0 t0 (.slice none 0 0) 300000000000 (.slice (some ⟨w2.heap.size + 1, 0, none⟩) 0 10)) ∧ IsBlock w8 (w4.heap.size + 1) [.int .u64 0, .int .u64 0, .int .u64 0, .int .u64 4030721666496593920, .int .i32 0, .int .u32 0, .slice (some ⟨w4.heap.size, 0, none⟩) 0 0, .map none, .map none] ∧ IsBlock w8 (w7.heap.size + 1) [.int .u64 0, .int .u64 0, .int .u64 0, .int .u64 0, .int .i32 0, .int .u32 0, .slice (some ⟨w7.heap.size, 0, none⟩) 0 0, .map none, .map none] ∧ Only (fun _ => False) w w8 ∧ w8.heap.size = w7.heap.size + 2) := Lib.hid (by
    have hl := H4.out.2.2
    have hz := H7.out.2.2.2
    rw [hw8]
    refine ⟨(HB.out.set 6 _).drew, (((H7.out.2.1.alloc _).alloc _).set_ne (a := ⟨w.heap.size + 1, 6, none⟩) (by show w4.heap.size + 1 ≠ w.heap.size + 1; omega) _).drew, ?_, (((H7.out.2.2.1.alloc _).alloc _).setCell (.inr (by show _ ≤ w.heap.size + 1; omega)) _).drew, by simp [World.drew]⟩
    have h := IsBlock.new (w7.alloc (.cells #[] 30)) [.int .u64 0, .int .u64 0, .int .u64 0, .int .u64 0, .int .i32 0, .int .u32 0, .slice (some ⟨w7.heap.size, 0, none⟩) 0 0, .map none, .map none] 253
    rw [World.size_alloc] at h
    exact (h.set_ne (a := ⟨w.heap.size + 1, 6, none⟩) (by show w7.heap.size + 1 ≠ w.heap.size + 1; omega) _).drew)
  clear hw8 HB c6 f6 k7 hmk
  have k6 := H8.out.1.cell (i := 6) rfl
  have k11 := H8.out.1.cell (i := 11) rfl
  have c3 := H8.out.2.2.1.cell (i := 3) rfl
  have f3 := H8.out.2.2.1.free 3
  go_wp2_with fail
  go_region
  refine (?_ : ∀ w9, w9 = _ → Exit.then _ _ _ _ w9) _ rfl
  intro w9 hw9
  have H9 : Hid (IsBlock w9 (w.heap.size + 1) (hCells d ck (.nilIface) (.slice none 0 0) (.func (.func 71) #[.pointer (some ⟨ck, 0, none⟩)] #[]) (.pointer (some ⟨w4.heap.size + 1, 0, none⟩)) (.pointer (some ⟨w7.heap.size + 1, 0, none⟩)) 0 4030721666496593920 0 0 0 t0 (.slice none 0 0) 300000000000 (.slice (some ⟨w2.heap.size + 1, 0, none⟩) 0 10)) ∧ IsBlock w9 (w4.heap.size + 1) [.int .u64 0, .int .u64 0, .int .u64 0, .int .u64 4030721666496593920, .int .i32 0, .int .u32 0, .slice (some ⟨w4.heap.size, 0, none⟩) 0 0, .map none, .map none] ∧ IsBlock w9 (w7.heap.size + 1) [.int .u64 0, .int .u64 0, .int .u64 0, .int .u64 4030721666496593920, .int .i32 0, .int .u32 0, .slice (some ⟨w7.heap.size, 0, none⟩) 0 0, .map none, .map none] ∧ Only (fun _ => False) w w9 ∧ w9.heap.size = w7.heap.size + 2) := Lib.hid (by
    have hl := H4.out.2.2
    have hz := H7.out.2.2.2
    rw [hw9]
    exact ⟨(H8.out.1.set_ne (a := ⟨w7.heap.size + 1, 3, none⟩) (by show w.heap.size + 1 ≠ w7.heap.size + 1; omega) _).drew, (H8.out.2.1.set_ne (a := ⟨w7.heap.size + 1, 3, none⟩) (by show w4.heap.size + 1 ≠ w7.heap.size + 1; omega) _).drew, (H8.out.2.2.1.set 3 _).drew, (H8.out.2.2.2.1.setCell (.inr (by show _ ≤ w7.heap.size + 1; omega)) _).drew, by simpa [World.drew] using H8.out.2.2.2.2⟩)
  clear hw9 H8 k6 k11 c3 f3
  have k6 := H9.out.1.cell (i := 6) rfl
  have k10 := H9.out.1.cell (i := 10) rfl
  have c4 := H9.out.2.2.1.cell (i := 4) rfl
  have f4 := H9.out.2.2.1.free 4
  go_wp2_with fail
  go_region
  refine (?_ : ∀ w10, w10 = _ → Exit.then _ _ _ _ w10) _ rfl
  intro w10 hw10
  have H10 : Hid (IsBlock w10 (w.heap.size + 1) (hCells d ck (.nilIface) (.slice none 0 0) (.func (.func 71) #[.pointer (some ⟨ck, 0, none⟩)] #[]) (.pointer (some ⟨w4.heap.size + 1, 0, none⟩)) (.pointer (some ⟨w7.heap.size + 1, 0, none⟩)) 0 4030721666496593920 0 0 0 t0 (.slice none 0 0) 300000000000 (.slice (some ⟨w2.heap.size + 1, 0, none⟩) 0 10)) ∧ IsBlock w10 (w4.heap.size + 1) [.int .u64 0, .int .u64 0, .int .u64 0, .int .u64 4030721666496593920, .int .i32 0, .int .u32 0, .slice (some ⟨w4.heap.size, 0, none⟩) 0 0, .map none, .map none] ∧ IsBlock w10 (w7.heap.size + 1) [.int .u64 0, .int .u64 0, .int .u64 0, .int .u64 4030721666496593920, .int .i32 0, .int .u32 0, .slice (some ⟨w7.heap.size, 0, none⟩) 0 0, .map none, .map none] ∧ Only (fun _ => False) w w10 ∧ w10.heap.size = w7.heap.size + 2) := Lib.hid (by
    have hl := H4.out.2.2
    have hz := H7.out.2.2.2
    rw [hw10]
    exact ⟨(H9.out.1.set_ne (a := ⟨w7.heap.size + 1, 4, none⟩) (by show w.heap.size + 1 ≠ w7.heap.size + 1; omega) _).drew, (H9.out.2.1.set_ne (a := ⟨w7.heap.size + 1, 4, none⟩) (by show w4.heap.size + 1 ≠ w7.heap.size + 1; omega) _).drew, (H9.out.2.2.1.set 4 _).drew, (H9.out.2.2.2.1.setCell (.inr (by show _ ≤ w7.heap.size + 1; omega)) _).drew, by simpa [World.drew] using H9.out.2.2.2.2⟩)
  clear hw10 H9 k6 k10 c4 f4
  have hmk : ∀ w : World, (Instr.makeSlice 240 (.int .i64 1) (.int .i64 1)).run Tryz.prog w = .ok (.slice (some ⟨w.heap.size, 0, none⟩) 1 1) (w.alloc (.cells #[.nilIface] 390)) := make_anys 1 (by decide)
  have k7 := H10.out.1.cell (i := 7) rfl
  have HB := Lib.hid (H10.out.1.alloc (.cells #[.nilIface] 390))
  have c9 := HB.out.cell (i := 9) rfl
  have f9 := HB.out.free 9
  go_wp2_with fail
  refine (selfInit_any (w.heap.size + 1) 1 _ 227 (some ⟨w.heap.size + 1, 0, none⟩) _ _ (HB.out.set 9 (.slice (some ⟨w10.heap.size, 0, none⟩) 1 1)) rfl).mono ?_
  rintro e w11 ⟨rfl, hw11⟩
  have HF : Hid (∃ p xb, Ending.returned (.iface 227 (.pointer (some ⟨w.heap.size + 1, 0, none⟩))) = .returned (.iface 227 (.pointer (some ⟨p.h, 0, none⟩))) ∧ NHIn w11 p (newN t0 xb) (fun _ _ => False) 0 ∧ NewNAt w w11 d ck p) := Lib.hid (by
    have hl := H4.out.2.2
    have hz := H7.out.2.2.2
    have hz10 := H10.out.2.2.2.2
    have b1 : IsBlock w11 (w4.heap.size + 1) [.int .u64 0, .int .u64 0, .int .u64 0, .int .u64 4030721666496593920, .int .i32 0, .int .u32 0, .slice (some ⟨w4.heap.size, 0, none⟩) 0 0, .map none, .map none] := by rw [hw11]; exact ((H10.out.2.1.alloc _).set_ne (a := ⟨w.heap.size + 1, 9, none⟩) (by show w4.heap.size + 1 ≠ w.heap.size + 1; omega) _).set_ne (a := ⟨w.heap.size + 1, 1, none⟩) (by show w4.heap.size + 1 ≠ w.heap.size + 1; omega) _
    have b2 : IsBlock w11 (w7.heap.size + 1) [.int .u64 0, .int .u64 0, .int .u64 0, .int .u64 4030721666496593920, .int .i32 0, .int .u32 0, .slice (some ⟨w7.heap.size, 0, none⟩) 0 0, .map none, .map none] := by rw [hw11]; exact ((H10.out.2.2.1.alloc _).set_ne (a := ⟨w.heap.size + 1, 9, none⟩) (by show w7.heap.size + 1 ≠ w.heap.size + 1; omega) _).set_ne (a := ⟨w.heap.size + 1, 1, none⟩) (by show w7.heap.size + 1 ≠ w.heap.size + 1; omega) _
    have b3 : IsBlock w11 w10.heap.size [.nilIface] := by rw [hw11]; exact ((IsBlock.new w10 [.nilIface] 390).set_ne (a := ⟨w.heap.size + 1, 9, none⟩) (by show w10.heap.size ≠ w.heap.size + 1; omega) _).set_ne (a := ⟨w.heap.size + 1, 1, none⟩) (by show w10.heap.size ≠ w.heap.size + 1; omega) _
    have b0 : IsBlock w11 (w.heap.size + 1) (hCells d ck (.iface 227 (.pointer (some ⟨w.heap.size + 1, 0, none⟩))) (.slice none 0 0) (.func (.func 71) #[.pointer (some ⟨ck, 0, none⟩)] #[]) (.pointer (some ⟨w4.heap.size + 1, 0, none⟩)) (.pointer (some ⟨w7.heap.size + 1, 0, none⟩)) 0 4030721666496593920 0 0 0 t0 (.slice (some ⟨w10.heap.size, 0, none⟩) 1 1) 300000000000 (.slice (some ⟨w2.heap.size + 1, 0, none⟩) 0 10)) := by rw [hw11]; exact (HB.out.set 9 _).set 1 _
    have bo : Only (fun _ => False) w w11 := by rw [hw11]; exact ((H10.out.2.2.2.1.alloc _).setCell (.inr (by show _ ≤ w.heap.size + 1; omega)) _).setCell (.inr (by show _ ≤ w.heap.size + 1; omega)) _
    have nz : NSt w11 (fun _ => False) none none 0 := ⟨fun _ => False, fun _ => False, 0, 0, fun _ => none, fun _ => none, .inl ⟨rfl, fun _ _ => rfl⟩, .inl ⟨rfl, fun _ _ => rfl⟩, Nat.le_refl _, Nat.le_refl _, fun _ h => h.elim, fun _ h => h.elim id id, fun _ _ h => (by cases h), fun _ _ h => (by cases h)⟩
    refine ⟨⟨w.heap.size + 1, fun b => if b then w7.heap.size + 1 else w4.heap.size + 1, fun b => if b then w7.heap.size else w4.heap.size, 0, w10.heap.size, 0, [], .iface 227 (.pointer (some ⟨w.heap.size + 1, 0, none⟩)), .pointer (some ⟨d, 0, none⟩), .slice none 0 0, .func (.func 70) #[.pointer (some ⟨ck, 0, none⟩)] #[], .func (.func 71) #[.pointer (some ⟨ck, 0, none⟩)] #[]⟩, w2.heap.size + 1, rfl, ?_, ⟨⟨by show w.heap.size + 1 ≥ _; omega, fun i => by cases i <;> simp <;> omega, by show w10.heap.size ≥ _; omega⟩, rfl, rfl, rfl, bo⟩⟩
    exact { hne := fun i => by cases i <;> simp <;> omega
            cc := by simp; omega
            xo := ⟨by show w10.heap.size ≠ w.heap.size + 1; omega, fun i => by cases i <;> simp <;> omega⟩
            hh := b0
            hc := fun i => by cases i; exact b1; exact b2
            hx := b3
            bk := fun _ => rfl
            bds := rfl
            sch := rfl
            csch := fun _ => rfl
            maxB := rfl
            nst := fun _ => nz
            zz := fun _ _ _ _ h => h.elim
            zo := fun _ _ h => h.elim
            nm := Nat.le_refl _
            cm := fun _ => ⟨Nat.le_refl _, Nat.le_refl _, Int.le_refl _, Int.le_refl _⟩ })
  clear hw11 HB c9 f9 k7 hmk H10 H7 H4
  go_wp2_with fail
  go_ret
  exact HF.out
end Go.Proofs.YtebjclmbacmilaaGreatDoor
