/- NewHistogram and the door's histogram with native buckets (the factor 2) and no bounds. Conditions: as stated. The door's histogram with native buckets (the factor 2) and no bounds. Conditions: as stated. -/
import Derived.Test.YtebjclmbacmilaaGreatDoorMn
import Derived.Test.YtebjclmbacmilaaGreatDoorxNk
import Derived.Laws.EntriesVeiled
namespace Go.Proofs.YtebjclmbacmilaaGreatDoor
open Go.RowKit

theorem NewNAt.mono {w wz w' : World} {d ck : Nat} {p : Pl} (h : NewNAt wz w' d ck p) (hb : Below w.heap.size w wz) : NewNAt w w' d ck p :=
  { h with own := ⟨Nat.le_trans hb.size h.own.1, fun i => Nat.le_trans hb.size (h.own.2.1 i), Nat.le_trans hb.size h.own.2.2⟩, only := (only_of_below hb).trans h.only }

set_option maxRecDepth 100000 in
set_option maxHeartbeats 1600000 in
theorem newHistogram73_nat (ck : Nat) (t0 : Int) (gs : Addr) (gc : Nat) (w : World) (hck : w.cell? ⟨ck, 0, none⟩ = some (.int .i64 t0))
    (hg : w.cell? ⟨2, 0, none⟩ = some (.slice (some gs) 1 gc)) (hgs : w.cell? gs = some (.int .u8 255)) :
    Calls Tryz.prog 73 #[.agg #[.string ⟨#[]⟩, .string ⟨#[]⟩, .string ⟨#[104]⟩, .string ⟨#[]⟩, .string ⟨#[]⟩, .map none, .slice none 0 0, .float .f64 4611686018427387904, .float .f64 0, .int .u32 0, .int .i64 0, .float .f64 0, .int .i64 0, .int .i64 0, .func (.func 70) #[.pointer (some ⟨ck, 0, none⟩)] #[], .func (.func 71) #[.pointer (some ⟨ck, 0, none⟩)] #[]]] w
      fun e w' => ∃ d p xb, e = .returned (.iface 227 (.pointer (some ⟨p.h, 0, none⟩))) ∧ NHIn w' p (newN t0 xb) (fun _ _ => False) 0 ∧ NewNAt w w' d ck p := by
  go_enter Tryz.func73, Tryz.ntmps73
  go_upto_region 1 with fail
  have hO := IsBlock.new w (oCells2 ck none 0 0 4611686018427387904 0 0 0 0 0 0) 121
  have hW : Below w.heap.size w (w.alloc (.cells (oCells2 ck none 0 0 4611686018427387904 0 0 0 0 0 0).toArray 121)) := (Below.refl _ w).alloc (Nat.le_refl _) _
  refine (?_ : ∀ w1, w1 = w.alloc (.cells (oCells2 ck none 0 0 4611686018427387904 0 0 0 0 0 0).toArray 121) → Code.wp _ _ _ _ w1) _ rfl
  intro w1 hw1
  rw [← hw1] at hO hW
  have hs1 : w1.heap.size = w.heap.size + 1 := by rw [hw1]; simp
  have HO := Lib.hid hO
  have HW := Lib.hid hW
  have HS : Hid (∀ wx, Below (w.heap.size + 1) w1 wx → Below (w.heap.size + 1) w1 wx ∧ wx.cell? ⟨w.heap.size, 0, none⟩ = some (.string ⟨#[]⟩) ∧ wx.cell? ⟨w.heap.size, 1, none⟩ = some (.string ⟨#[]⟩) ∧ wx.cell? ⟨w.heap.size, 2, none⟩ = some (.string ⟨#[104]⟩) ∧ wx.cell? ⟨w.heap.size, 3, none⟩ = some (.string ⟨#[]⟩) ∧ wx.cell? ⟨w.heap.size, 4, none⟩ = some (.string ⟨#[]⟩) ∧ wx.cell? ⟨w.heap.size, 5, none⟩ = some (.map none) ∧ wx.cell? ⟨w.heap.size, 6, none⟩ = some (.slice none 0 0) ∧ wx.cell? ⟨w.heap.size, 7, none⟩ = some (.float .f64 4611686018427387904) ∧ wx.cell? ⟨w.heap.size, 8, none⟩ = some (.float .f64 0) ∧ wx.cell? ⟨w.heap.size, 9, none⟩ = some (.int .u32 0) ∧ wx.cell? ⟨w.heap.size, 10, none⟩ = some (.int .i64 0) ∧ wx.cell? ⟨w.heap.size, 11, none⟩ = some (.float .f64 0) ∧ wx.cell? ⟨w.heap.size, 12, none⟩ = some (.int .i64 0) ∧ wx.cell? ⟨w.heap.size, 13, none⟩ = some (.int .i64 0) ∧ wx.cell? ⟨w.heap.size, 14, none⟩ = some (.func (.func 70) #[.pointer (some ⟨ck, 0, none⟩)] #[]) ∧ wx.cell? ⟨w.heap.size, 15, none⟩ = some (.func (.func 71) #[.pointer (some ⟨ck, 0, none⟩)] #[]) ∧ wx.cell? ⟨2, 0, none⟩ = some (.slice (some gs) 1 gc) ∧ wx.cell? gs = some (.int .u8 255) ∧ wx.cell? ⟨ck, 0, none⟩ = some (.int .i64 t0)) := Lib.hid (fun wx hb =>
    have o := bblock hb hs1 HO.out
    ⟨hb, o.cell rfl, o.cell rfl, o.cell rfl, o.cell rfl, o.cell rfl, o.cell rfl, o.cell rfl, o.cell rfl, o.cell rfl, o.cell rfl, o.cell rfl, o.cell rfl, o.cell rfl, o.cell rfl, o.cell rfl, o.cell rfl, bcell hb hs1 (bcell HW.out rfl hg), bcell hb hs1 (bcell HW.out rfl hgs), bcell hb hs1 (bcell HW.out rfl hck)⟩)
  obtain ⟨b0, c0, c1, c2, c3, c4, c5, c6, c7, c8, c9, c10, c11, c12, c13, c14, c15, c16, c17, c18⟩ := HS.out w1 (Below.refl _ _)
  clear hw1 hO hW hck hg hgs
  go_region_held3 (fun wx => Below (w.heap.size + 1) w1 wx ∧ wx.cell? ⟨w.heap.size, 0, none⟩ = some (.string ⟨#[]⟩) ∧ wx.cell? ⟨w.heap.size, 1, none⟩ = some (.string ⟨#[]⟩) ∧ wx.cell? ⟨w.heap.size, 2, none⟩ = some (.string ⟨#[104]⟩) ∧ wx.cell? ⟨w.heap.size, 3, none⟩ = some (.string ⟨#[]⟩) ∧ wx.cell? ⟨w.heap.size, 4, none⟩ = some (.string ⟨#[]⟩) ∧ wx.cell? ⟨w.heap.size, 5, none⟩ = some (.map none) ∧ wx.cell? ⟨w.heap.size, 6, none⟩ = some (.slice none 0 0) ∧ wx.cell? ⟨w.heap.size, 7, none⟩ = some (.float .f64 4611686018427387904) ∧ wx.cell? ⟨w.heap.size, 8, none⟩ = some (.float .f64 0) ∧ wx.cell? ⟨w.heap.size, 9, none⟩ = some (.int .u32 0) ∧ wx.cell? ⟨w.heap.size, 10, none⟩ = some (.int .i64 0) ∧ wx.cell? ⟨w.heap.size, 11, none⟩ = some (.float .f64 0) ∧ wx.cell? ⟨w.heap.size, 12, none⟩ = some (.int .i64 0) ∧ wx.cell? ⟨w.heap.size, 13, none⟩ = some (.int .i64 0) ∧ wx.cell? ⟨w.heap.size, 14, none⟩ = some (.func (.func 70) #[.pointer (some ⟨ck, 0, none⟩)] #[]) ∧ wx.cell? ⟨w.heap.size, 15, none⟩ = some (.func (.func 71) #[.pointer (some ⟨ck, 0, none⟩)] #[]) ∧ wx.cell? ⟨2, 0, none⟩ = some (.slice (some gs) 1 gc) ∧ wx.cell? gs = some (.int .u8 255) ∧ wx.cell? ⟨ck, 0, none⟩ = some (.int .i64 t0))
    ((refine HS.out _ ?_; repeat (first | exact Below.refl _ _ | assumption | exact And.left (by assumption) | refine Below.drew ?_ | refine below_al hs1 ?_ _ | refine below_st hs1 ?_ (by assumption))))
    (first
      | (go_at_call 90; refine (buildFQName_h _).mono ?_; rintro e w' ⟨rfl, hbl⟩)
      | (go_at_call 91; refine (withUnit_any _ _).mono ?_; rintro e w' ⟨rfl, rfl⟩)
      | (go_at_call 89; refine (newDesc_h _ _ gs gc _ (blk_new _ _ _ _ (World.size_alloc _ _).symm) (by first | exact IsBlock.alloc (blk_new _ _ _ _ rfl) _ | exact IsBlock.alloc (bblock hbl rfl (blk_new _ _ _ _ rfl)) _) (HS.out _ (by (repeat (first | exact Below.refl _ _ | assumption | exact And.left (by assumption) | refine Below.drew ?_ | refine below_al hs1 ?_ _ | refine below_st hs1 ?_ (by assumption))))).2.2.2.2.2.2.2.2.2.2.2.2.2.2.2.2.2.1 (HS.out _ (by (repeat (first | exact Below.refl _ _ | assumption | exact And.left (by assumption) | refine Below.drew ?_ | refine below_al hs1 ?_ _ | refine below_st hs1 ?_ (by assumption))))).2.2.2.2.2.2.2.2.2.2.2.2.2.2.2.2.2.2.1).mono ?_; rintro e w2 ⟨pp, s2, s3, rfl, hd, hn, hbl2⟩; (simp only [World.size_alloc] at hd hn))
      | (go_at_call 88; have hb0 : Below w.heap.size w w2 := HW.out.trans ((by (repeat (first | exact Below.refl _ _ | assumption | exact And.left (by assumption) | refine Below.drew ?_ | refine below_al hs1 ?_ _ | refine below_st hs1 ?_ (by assumption))) : Below (w.heap.size + 1) w1 w2).mono (Nat.le_succ _)); refine (newHistogram_nat _ _ _ ck _ t0 _ rfl rfl hd hn (HS.out _ (by (repeat (first | exact Below.refl _ _ | assumption | exact And.left (by assumption) | refine Below.drew ?_ | refine below_al hs1 ?_ _ | refine below_st hs1 ?_ (by assumption))))).2.2.2.2.2.2.2.2.2.2.2.2.2.2.2.2.2.2.2).mono ?_; rintro e w3 ⟨q, xb, rfl, hin, hat⟩; have hbl3 := below_of_only hat.only; have hfin := hat.mono hb0; clear hat hb0))
  go_wp2_with fail
  go_ret
  exact ⟨_, _, _, rfl, by assumption, by assumption⟩
end Go.Proofs.YtebjclmbacmilaaGreatDoor

namespace Go.Proofs.YtebjclmbacmilaaGreatDoor
open Go.RowKit

/-- The blocks that calls of a native histogram write, its counters aside. -/
def Pl.nown (p : Pl) (k : Nat) : Prop := k = p.h ∨ (∃ i, k = p.c i) ∨ k = p.ex
theorem NHIn.mono {w w' : World} {p : Pl} {s : HSt} {Z : Bool → Nat → Prop} {m : Nat} (H : NHIn w p s Z m) {S : Nat → Prop} (ho : Only S w w') (hS : ∀ k, p.nown k ∨ (∃ i, Z i k) → ¬ S k) : NHIn w' p s Z m := by
  have hz := ho.size
  exact { hne := H.hne, cc := H.cc, xo := H.xo, hh := ho.isBlock H.hh (hS _ (.inl (.inl rfl))), hc := fun i => ho.isBlock (H.hc i) (hS _ (.inl (.inr (.inl ⟨i, rfl⟩)))), hx := ho.isBlock H.hx (hS _ (.inl (.inr (.inr rfl)))), bk := H.bk, bds := H.bds, sch := H.sch, csch := H.csch, maxB := H.maxB,
          nst := fun i => (H.nst i).kept ho (fun k hk => hS k (.inr ⟨i, hk⟩)), zz := H.zz, zo := fun i k hk => by obtain ⟨a, b, c, d⟩ := H.zo i k hk; exact ⟨a, b, c, by omega⟩, nm := H.nm, cm := H.cm }
theorem NHIn.kept {w w' : World} {p : Pl} {s : HSt} {Z : Bool → Nat → Prop} {m : Nat} (H : NHIn w p s Z m) (ho : Only (fun _ => False) w w') : NHIn w' p s Z m := H.mono ho (fun _ _ => id)
theorem NewNAt.low {w w' : World} {d ck : Nat} {p : Pl} (h : NewNAt w w' d ck p) : ∀ k, p.nown k → w.heap.size ≤ k := fun k hk => by
  rcases hk with rfl | ⟨i, rfl⟩ | rfl
  · exact h.own.1
  · exact h.own.2.1 i
  · exact h.own.2.2

set_option maxRecDepth 100000 in
theorem doorHistogram1_nat (ck : Nat) (t0 : Int) (gs : Addr) (gc : Nat) (ob hb : Nat) (w : World) (hck : w.cell? ⟨ck, 0, none⟩ = some (.int .i64 t0))
    (hg : w.cell? ⟨2, 0, none⟩ = some (.slice (some gs) 1 gc)) (hgs : w.cell? gs = some (.int .u8 255)) (hO : IsBlock w ob (oCells2 ck none 0 0 4611686018427387904 0 0 0 0 0 0)) (hH : IsBlock w hb [.nilIface]) :
    Calls Tryz.prog 72 #[.pointer (some ⟨ob, 0, none⟩), .pointer (some ⟨hb, 0, none⟩)] w fun e w' => e = .returned (.tuple #[]) ∧ ∃ p xb, IsBlock w' hb [.iface 227 (.pointer (some ⟨p.h, 0, none⟩))] ∧ NHIn w' p (newN t0 xb) (fun _ _ => False) 0 ∧ (∀ k, p.nown k → w.heap.size ≤ k) ∧ (p.now = .func (.func 70) #[.pointer (some ⟨ck, 0, none⟩)] #[] ∧ p.labels = .slice none 0 0) ∧ Only (fun k => k = hb) w w' := by
  have c0 := hO.cell (i := 0) rfl
  have c1 := hO.cell (i := 1) rfl
  have c2 := hO.cell (i := 2) rfl
  have c3 := hO.cell (i := 3) rfl
  have c4 := hO.cell (i := 4) rfl
  have c5 := hO.cell (i := 5) rfl
  have c6 := hO.cell (i := 6) rfl
  have c7 := hO.cell (i := 7) rfl
  have c8 := hO.cell (i := 8) rfl
  have c9 := hO.cell (i := 9) rfl
  have c10 := hO.cell (i := 10) rfl
  have c11 := hO.cell (i := 11) rfl
  have c12 := hO.cell (i := 12) rfl
  have c13 := hO.cell (i := 13) rfl
  have c14 := hO.cell (i := 14) rfl
  have c15 := hO.cell (i := 15) rfl
  have hh0 := hH.cell (i := 0) rfl
  have hf0 := hH.free 0
  have HH := Lib.hid hH
  clear hO hH
  go_enter Tryz.func72, Tryz.ntmps72
  go_wp2_with fail
  refine (newHistogram73_nat ck t0 gs gc w hck hg hgs).mono ?_
  rintro e w1 ⟨d, p, xb, rfl, hin, hat⟩
  have c := hat.only.cell hh0 id
  have f := (hat.only.isBlock HH.out id).free 0
  have HIN := Lib.hid hin
  have HAT := Lib.hid hat
  clear hh0 hf0 hin hat
  go_wp2_with fail
  first | go_end0 | refine bodyPost_ret (results_none rfl _ _ _) rfl ?_
  have hl := HH.out.lt
  have hat := HAT.out
  have o1 : Only (fun k => k = hb) w (w1.setCell ⟨hb, 0, none⟩ (.iface 227 (.pointer (some ⟨p.h, 0, none⟩)))) := (hat.only.mono (T := fun k => k = hb) (fun _ _ h => h.elim)).setCell (p := ⟨hb, 0, none⟩) (.inl rfl) _
  refine ⟨rfl, p, xb, (hat.only.isBlock HH.out id).set 0 _, HIN.out.mono ((Only.refl (fun k => k = hb) w1).setCell (p := ⟨hb, 0, none⟩) (.inl rfl) _) (fun k hk => ?_), hat.low, ⟨hat.now, hat.labels⟩, o1⟩
  rcases hk with hk | ⟨_, hk⟩
  · have := hat.low k hk; show ¬ k = hb; omega
  · exact hk.elim

set_option maxRecDepth 100000 in
theorem doorHistogram_nat (ck : Nat) (t0 : Int) (gs : Addr) (gc : Nat) (w : World) (hck : w.cell? ⟨ck, 0, none⟩ = some (.int .i64 t0))
    (hg : w.cell? ⟨2, 0, none⟩ = some (.slice (some gs) 1 gc)) (hgs : w.cell? gs = some (.int .u8 255)) :
    Calls Tryz.prog 51 #[.agg #[.string ⟨#[]⟩, .string ⟨#[]⟩, .string ⟨#[104]⟩, .string ⟨#[]⟩, .string ⟨#[]⟩, .map none, .slice none 0 0, .float .f64 4611686018427387904, .float .f64 0, .int .u32 0, .int .i64 0, .float .f64 0, .int .i64 0, .int .i64 0, .nilFunc, .nilFunc], .pointer (some ⟨ck, 0, none⟩)] w fun e w' => ∃ p xb, e = .returned (.iface 227 (.pointer (some ⟨p.h, 0, none⟩))) ∧ NHIn w' p (newN t0 xb) (fun _ _ => False) 0 ∧ (∀ k, p.nown k → w.heap.size ≤ k) ∧ (p.now = .func (.func 70) #[.pointer (some ⟨ck, 0, none⟩)] #[] ∧ p.labels = .slice none 0 0) ∧ Below w.heap.size w w' := by
  have hmf : ∀ (fn : Fn) (first cap : Array Value) (w : World), (Instr.makeFunc fn first cap).run Tryz.prog w = .ok (.func fn first cap) w := fun _ _ _ _ => rfl
  have hO := IsBlock.new w [.string ⟨#[]⟩, .string ⟨#[]⟩, .string ⟨#[104]⟩, .string ⟨#[]⟩, .string ⟨#[]⟩, .map none, .slice none 0 0, .float .f64 4611686018427387904, .float .f64 0, .int .u32 0, .int .i64 0, .float .f64 0, .int .i64 0, .int .i64 0, .nilFunc, .nilFunc] 121
  have c14 := hO.cell (i := 14) rfl
  have f14 := hO.free 14
  have hO2 := hO.set 14 (.func (.func 70) #[.pointer (some ⟨ck, 0, none⟩)] #[])
  have c15 := hO2.cell (i := 15) rfl
  have f15 := hO2.free 15
  have HO := Lib.hid (hO2.set 15 (.func (.func 71) #[.pointer (some ⟨ck, 0, none⟩)] #[]))
  clear hO hO2
  go_enter Tryz.func51, Tryz.ntmps51
  go_wp2_with fail
  refine (?_ : ∀ w0, w0 = _ → Calls Tryz.prog 53 _ w0 _) _ rfl
  intro w0 hw0
  have HO0 : IsBlock w0 w.heap.size (oCells2 ck none 0 0 4611686018427387904 0 0 0 0 0 0) := by rw [hw0]; exact (IsBlock.new w (oCells2 ck none 0 0 4611686018427387904 0 0 0 0 0 0) 121).alloc _
  have HH0 : IsBlock w0 (w.heap.size + 1) [.nilIface] := by rw [hw0]; exact blk_new _ [.nilIface] 114 _ (World.size_alloc _ _).symm
  have HB0 : Below w.heap.size w w0 := by rw [hw0]; exact ((Below.refl _ w).alloc (Nat.le_refl _) _).alloc (by simp) _
  have hs0 : w0.heap.size = w.heap.size + 2 := by rw [hw0]; simp
  have HB1 : Below w.heap.size w (w0.alloc (.cells #[.bool false] 4)) := HB0.alloc (by omega) _
  clear hw0 c14 f14 c15 f15 HO
  refine (doorTry_ok 72 _ w0 (fun w' => ∃ (p : Pl) (xb : Nat), IsBlock w' (w.heap.size + 1) [.iface 227 (.pointer (some ⟨p.h, 0, none⟩))] ∧ NHIn w' p (newN t0 xb) (fun _ _ => False) 0 ∧ (∀ k, p.nown k → w0.heap.size < k) ∧ (p.now = .func (.func 70) #[.pointer (some ⟨ck, 0, none⟩)] #[] ∧ p.labels = .slice none 0 0) ∧ Only (fun k => k = w.heap.size + 1) (w0.alloc (.cells #[.bool false] 4)) w') (fun _ => rfl) ?_).mono ?_
  · refine (doorHistogram1_nat ck t0 gs gc w.heap.size (w.heap.size + 1) _ (bcell HB1 rfl hck) (bcell HB1 rfl hg) (bcell HB1 rfl hgs) (HO0.alloc _) (HH0.alloc _)).mono ?_
    rintro e w1 ⟨rfl, p, xb, hh, hin, hown, hnow, hon⟩
    refine ⟨rfl, hon.isBlock (IsBlock.new w0 [.bool false] 4) (by show ¬ _ = _; omega), p, xb, hh, hin, fun k hk => ?_, hnow, hon⟩
    have := hown k hk; rw [World.size_alloc] at this; omega
  · rintro e w2 ⟨rfl, w1, ⟨p, xb, hh, hin, hown, hnow, hon⟩, hw2⟩
    have hs1 : (w0.alloc (.cells #[.bool false] 4)).heap.size = w0.heap.size + 1 := World.size_alloc _ _
    have o2 : Only (fun k => k = w0.heap.size) w1 w2 := by rw [hw2]; exact (Only.refl (fun k => k = w0.heap.size) w1).setCell (p := ⟨w0.heap.size, 0, none⟩) (.inl rfl) _
    have h2 : IsBlock w2 (w.heap.size + 1) _ := o2.isBlock hh (by show ¬ _ = _; omega)
    have c2 := h2.cell (i := 0) rfl
    have hin2 : NHIn w2 p (newN t0 xb) (fun _ _ => False) 0 := hin.mono o2 (fun k hk => by
      rcases hk with hk | ⟨_, hk⟩
      · have := hown k hk; show ¬ k = _; omega
      · exact hk.elim)
    have hb2 : Below w.heap.size w w2 := HB1.trans ((hon.below (by rw [hs1]; omega) (fun k hk => by omega)).trans (o2.below (by have := hon.size; omega) (fun k hk => by omega)))
    have HF := Lib.hid (show ∃ (p' : Pl) (xb' : Nat), p'.h = p.h ∧ NHIn w2 p' (newN t0 xb') (fun _ _ => False) 0 ∧ (∀ k, p'.nown k → w.heap.size ≤ k) ∧ (p'.now = .func (.func 70) #[.pointer (some ⟨ck, 0, none⟩)] #[] ∧ p'.labels = .slice none 0 0) ∧ Below w.heap.size w w2 from
      ⟨p, xb, rfl, hin2, fun k hk => by have := hown k hk; omega, hnow, hb2⟩)
    clear hw2 o2 h2 hin2 hb2 hin hh hon hown
    go_wp2_with fail
    go_ret
    obtain ⟨p', xb', h1, h2⟩ := HF.out
    refine ⟨p', xb', ?_, h2⟩
    rw [h1]; rfl
end Go.Proofs.YtebjclmbacmilaaGreatDoor
