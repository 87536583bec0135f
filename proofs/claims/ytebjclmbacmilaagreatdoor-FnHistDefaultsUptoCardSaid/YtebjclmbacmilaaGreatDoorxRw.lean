/- NewHistogram where the bounds are out of order: it panics. Conditions: as stated. DoorHistogram and its closure where the bounds are out of order: a panic, caught. Conditions: as stated. HistRun of the thin package where the bounds are out of order: it makes no histogram. Conditions: as stated. Contract of FnHistRefused: it answers true, at every list of bounds of the size stated. -/
import Derived.Test.YtebjclmbacmilaaGreatDoorxNi
import Derived.Test.YtebjclmbacmilaaGreatDoorxNk
import Derived.Test.YtebjclmbacmilaaGreatDoorHr
import Derived.Test.YtebjclmbacmilaaGreatDoorxCv
namespace Go.Proofs.YtebjclmbacmilaaGreatDoor
open Go.RowKit

/-- A body's post behind a name: a panic's limb does not hang on the slots. -/
def PB (P : Program) (fn : Func) (R : Ending → World → Prop) (K : Act → World → Prop) : Exit → Act → World → Prop := Exit.then K (bodyPost P fn R)
instance PB.coe {P : Program} {fn : Func} {R : Ending → World → Prop} {K : Act → World → Prop} {c : List PanicEntry} {a : Act} {d : Option Tmp} {v : Value} {w : World} (h : PB P fn R K (.panic c) (a.put d v) w) : CoeDep (PB P fn R K (.panic c) (a.put d v) w) h (PB P fn R K (.panic c) a w) :=
  ⟨by cases d <;> exact h⟩
theorem PB.intro {P : Program} {fn : Func} {R : Ending → World → Prop} {K : Act → World → Prop} {c : Code} {a : Act} {w : World} (h : c.wp P (PB P fn R K) a w) : c.wp P (Exit.then K (bodyPost P fn R)) a w := h
set_option maxRecDepth 100000 in
set_option maxHeartbeats 1600000 in
theorem newHistogram73_no (ck : Nat) (ba : Option Addr) (bn bc fac zt maxZero : Nat) (maxB mr mex ttl t0 : Int) (gs : Addr) (gc : Nat) (w : World) (hck : w.cell? ⟨ck, 0, none⟩ = some (.int .i64 t0))
    (hg : w.cell? ⟨2, 0, none⟩ = some (.slice (some gs) 1 gc)) (hgs : w.cell? gs = some (.int .u8 255))
    (hf : (FloatKind.f64.format.order fac 4607182418800017408 == some .lt || FloatKind.f64.format.order fac 4607182418800017408 == some .eq) = true) (bs : List Nat) (spare : List Value) (hlen : bs.length ≤ 1048577) (hcp : bn ≤ bc) (hbs : bn = 0 ∧ bs = defBs ∧ spare = [] ∨ 0 < bn ∧ bn = bs.length ∧ ∃ u, ba = some ⟨u, 0, none⟩ ∧ IsBlock w u (f64s bs ++ spare)) (hasc : ¬ Asc bs) :
    Calls Tryz.prog 73 #[.agg #[.string ⟨#[]⟩, .string ⟨#[]⟩, .string ⟨#[104]⟩, .string ⟨#[]⟩, .string ⟨#[]⟩, .map none, .slice ba bn bc, .float .f64 fac, .float .f64 zt, .int .u32 maxB, .int .i64 mr, .float .f64 maxZero, .int .i64 mex, .int .i64 ttl, .func (.func 70) #[.pointer (some ⟨ck, 0, none⟩)] #[], .func (.func 71) #[.pointer (some ⟨ck, 0, none⟩)] #[]]] w
      fun e w' => (∃ t v, e = .panicked [{ v := .iface t v, recovered := false }]) ∧ Only (fun _ => False) w w' := by
  have HBS := Lib.hid hbs
  have HASC := Lib.hid hasc
  clear hbs hasc
  go_enter Tryz.func73, Tryz.ntmps73
  go_upto_region 1 with fail
  have hO := IsBlock.new w (oCells2 ck ba bn bc fac zt maxZero maxB mr mex ttl) 121
  have hW : Below w.heap.size w (w.alloc (.cells (oCells2 ck ba bn bc fac zt maxZero maxB mr mex ttl).toArray 121)) := (Below.refl _ w).alloc (Nat.le_refl _) _
  refine (?_ : ∀ w1, w1 = w.alloc (.cells (oCells2 ck ba bn bc fac zt maxZero maxB mr mex ttl).toArray 121) → Code.wp _ _ _ _ w1) _ rfl
  intro w1 hw1
  rw [← hw1] at hO hW
  have hs1 : w1.heap.size = w.heap.size + 1 := by rw [hw1]; simp
  have HO := Lib.hid hO
  have HW := Lib.hid hW
  have HS : Hid (∀ wx, Below (w.heap.size + 1) w1 wx → Below (w.heap.size + 1) w1 wx ∧ wx.cell? ⟨w.heap.size, 0, none⟩ = some (.string ⟨#[]⟩) ∧ wx.cell? ⟨w.heap.size, 1, none⟩ = some (.string ⟨#[]⟩) ∧ wx.cell? ⟨w.heap.size, 2, none⟩ = some (.string ⟨#[104]⟩) ∧ wx.cell? ⟨w.heap.size, 3, none⟩ = some (.string ⟨#[]⟩) ∧ wx.cell? ⟨w.heap.size, 4, none⟩ = some (.string ⟨#[]⟩) ∧ wx.cell? ⟨w.heap.size, 5, none⟩ = some (.map none) ∧ wx.cell? ⟨w.heap.size, 6, none⟩ = some (.slice ba bn bc) ∧ wx.cell? ⟨w.heap.size, 7, none⟩ = some (.float .f64 fac) ∧ wx.cell? ⟨w.heap.size, 8, none⟩ = some (.float .f64 zt) ∧ wx.cell? ⟨w.heap.size, 9, none⟩ = some (.int .u32 maxB) ∧ wx.cell? ⟨w.heap.size, 10, none⟩ = some (.int .i64 mr) ∧ wx.cell? ⟨w.heap.size, 11, none⟩ = some (.float .f64 maxZero) ∧ wx.cell? ⟨w.heap.size, 12, none⟩ = some (.int .i64 mex) ∧ wx.cell? ⟨w.heap.size, 13, none⟩ = some (.int .i64 ttl) ∧ wx.cell? ⟨w.heap.size, 14, none⟩ = some (.func (.func 70) #[.pointer (some ⟨ck, 0, none⟩)] #[]) ∧ wx.cell? ⟨w.heap.size, 15, none⟩ = some (.func (.func 71) #[.pointer (some ⟨ck, 0, none⟩)] #[]) ∧ wx.cell? ⟨2, 0, none⟩ = some (.slice (some gs) 1 gc) ∧ wx.cell? gs = some (.int .u8 255) ∧ wx.cell? ⟨ck, 0, none⟩ = some (.int .i64 t0)) := Lib.hid (fun wx hb =>
    have o := bblock hb hs1 HO.out
    ⟨hb, o.cell rfl, o.cell rfl, o.cell rfl, o.cell rfl, o.cell rfl, o.cell rfl, o.cell rfl, o.cell rfl, o.cell rfl, o.cell rfl, o.cell rfl, o.cell rfl, o.cell rfl, o.cell rfl, o.cell rfl, o.cell rfl, bcell hb hs1 (bcell HW.out rfl hg), bcell hb hs1 (bcell HW.out rfl hgs), bcell hb hs1 (bcell HW.out rfl hck)⟩)
  obtain ⟨b0, c0, c1, c2, c3, c4, c5, c6, c7, c8, c9, c10, c11, c12, c13, c14, c15, c16, c17, c18⟩ := HS.out w1 (Below.refl _ _)
  clear hw1 hO hW hck hg hgs
  refine PB.intro ?_
  go_region_held3 (fun wx => Below (w.heap.size + 1) w1 wx ∧ wx.cell? ⟨w.heap.size, 0, none⟩ = some (.string ⟨#[]⟩) ∧ wx.cell? ⟨w.heap.size, 1, none⟩ = some (.string ⟨#[]⟩) ∧ wx.cell? ⟨w.heap.size, 2, none⟩ = some (.string ⟨#[104]⟩) ∧ wx.cell? ⟨w.heap.size, 3, none⟩ = some (.string ⟨#[]⟩) ∧ wx.cell? ⟨w.heap.size, 4, none⟩ = some (.string ⟨#[]⟩) ∧ wx.cell? ⟨w.heap.size, 5, none⟩ = some (.map none) ∧ wx.cell? ⟨w.heap.size, 6, none⟩ = some (.slice ba bn bc) ∧ wx.cell? ⟨w.heap.size, 7, none⟩ = some (.float .f64 fac) ∧ wx.cell? ⟨w.heap.size, 8, none⟩ = some (.float .f64 zt) ∧ wx.cell? ⟨w.heap.size, 9, none⟩ = some (.int .u32 maxB) ∧ wx.cell? ⟨w.heap.size, 10, none⟩ = some (.int .i64 mr) ∧ wx.cell? ⟨w.heap.size, 11, none⟩ = some (.float .f64 maxZero) ∧ wx.cell? ⟨w.heap.size, 12, none⟩ = some (.int .i64 mex) ∧ wx.cell? ⟨w.heap.size, 13, none⟩ = some (.int .i64 ttl) ∧ wx.cell? ⟨w.heap.size, 14, none⟩ = some (.func (.func 70) #[.pointer (some ⟨ck, 0, none⟩)] #[]) ∧ wx.cell? ⟨w.heap.size, 15, none⟩ = some (.func (.func 71) #[.pointer (some ⟨ck, 0, none⟩)] #[]) ∧ wx.cell? ⟨2, 0, none⟩ = some (.slice (some gs) 1 gc) ∧ wx.cell? gs = some (.int .u8 255) ∧ wx.cell? ⟨ck, 0, none⟩ = some (.int .i64 t0))
    ((refine HS.out _ ?_; repeat (first | exact Below.refl _ _ | assumption | exact And.left (by assumption) | refine Below.drew ?_ | refine below_al hs1 ?_ _ | refine below_st hs1 ?_ (by assumption))))
    (first
      | (go_at_call 90; refine (buildFQName_h _).mono ?_; rintro e w' ⟨rfl, hbl⟩)
      | (go_at_call 91; refine (withUnit_any _ _).mono ?_; rintro e w' ⟨rfl, rfl⟩)
      | (go_at_call 89; refine (newDesc_h _ _ gs gc _ (blk_new _ _ _ _ (World.size_alloc _ _).symm) (by first | exact IsBlock.alloc (blk_new _ _ _ _ rfl) _ | exact IsBlock.alloc (bblock hbl rfl (blk_new _ _ _ _ rfl)) _) (HS.out _ (by (repeat (first | exact Below.refl _ _ | assumption | exact And.left (by assumption) | refine Below.drew ?_ | refine below_al hs1 ?_ _ | refine below_st hs1 ?_ (by assumption))))).2.2.2.2.2.2.2.2.2.2.2.2.2.2.2.2.2.1 (HS.out _ (by (repeat (first | exact Below.refl _ _ | assumption | exact And.left (by assumption) | refine Below.drew ?_ | refine below_al hs1 ?_ _ | refine below_st hs1 ?_ (by assumption))))).2.2.2.2.2.2.2.2.2.2.2.2.2.2.2.2.2.2.1).mono ?_; rintro e w2 ⟨pp, s2, s3, rfl, hd, hn, hbl2⟩; (simp only [World.size_alloc] at hd hn))
      | (go_at_call 88; (have hb0 : Below w.heap.size w w2 := HW.out.trans ((by (repeat (first | exact Below.refl _ _ | assumption | exact And.left (by assumption) | refine Below.drew ?_ | refine below_al hs1 ?_ _ | refine below_st hs1 ?_ (by assumption))) : Below (w.heap.size + 1) w1 w2).mono (Nat.le_succ _)); refine (newHistogram_plain _ _ _ ck _ ba bn bc fac zt maxZero maxB mr mex ttl t0 _ rfl rfl hd hn (HS.out _ (by (repeat (first | exact Below.refl _ _ | assumption | exact And.left (by assumption) | refine Below.drew ?_ | refine below_al hs1 ?_ _ | refine below_st hs1 ?_ (by assumption))))).2.2.2.2.2.2.2.2.2.2.2.2.2.2.2.2.2.2.2 hf bs spare hlen hcp (HBS.out.imp id (fun ⟨a, b, u, c, q⟩ => ⟨a, b, u, c, bblock (HW.out.trans ((by (repeat (first | exact Below.refl _ _ | assumption | exact And.left (by assumption) | refine Below.drew ?_ | refine below_al hs1 ?_ _ | refine below_st hs1 ?_ (by assumption))) : Below (w.heap.size + 1) w1 _).mono (Nat.le_succ _))) rfl q⟩))).mono ?_; intro e w3 hp; (refine Or.elim hp (fun hp1 => ?_) (fun hp2 => ?_)); rotate_left; (focus (obtain ⟨_, ⟨pt, pv, rfl⟩, hon⟩ := hp2; have hfin := (only_of_below hb0).trans hon; clear hb0 hd hn; dsimp only; exact And.intro rfl (And.intro ⟨_, _, rfl⟩ hfin))); (obtain ⟨hAS, q, rfl, hin, hat⟩ := hp1; have hbl3 := below_of_only hat.only; have hbad : Hid False := Lib.hid (HASC.out hAS); clear hat hin hb0 hp))))
  exact absurd hbad.out id

end Go.Proofs.YtebjclmbacmilaaGreatDoor

namespace Go.Proofs.YtebjclmbacmilaaGreatDoor
open Go.RowKit

set_option maxRecDepth 100000 in
theorem doorHistogram1_no (ck : Nat) (ba : Option Addr) (bn bc fac zt maxZero : Nat) (maxB mr mex ttl t0 : Int) (gs : Addr) (gc : Nat) (ob hb : Nat) (w : World) (hck : w.cell? ⟨ck, 0, none⟩ = some (.int .i64 t0))
    (hg : w.cell? ⟨2, 0, none⟩ = some (.slice (some gs) 1 gc)) (hgs : w.cell? gs = some (.int .u8 255))
    (hf : (FloatKind.f64.format.order fac 4607182418800017408 == some .lt || FloatKind.f64.format.order fac 4607182418800017408 == some .eq) = true) (bs : List Nat) (spare : List Value) (hlen : bs.length ≤ 1048577) (hcp : bn ≤ bc) (hbs : bn = 0 ∧ bs = defBs ∧ spare = [] ∨ 0 < bn ∧ bn = bs.length ∧ ∃ u, ba = some ⟨u, 0, none⟩ ∧ IsBlock w u (f64s bs ++ spare)) (hasc : ¬ Asc bs) (hO : IsBlock w ob (oCells2 ck ba bn bc fac zt maxZero maxB mr mex ttl)) (hH : IsBlock w hb [.nilIface]) (_hbu : ∀ a, ba = some a → a.block ≠ hb) :
    Calls Tryz.prog 72 #[.pointer (some ⟨ob, 0, none⟩), .pointer (some ⟨hb, 0, none⟩)] w fun e w' => (∃ t v, e = .panicked [{ v := .iface t v, recovered := false }]) ∧ Only (fun _ => False) w w' := by
  have c0 := hO.cell (i := 0) rfl
  have c1 := hO.cell (i := 1) rfl
  have c2 := hO.cell (i := 2) rfl
  have c3 := hO.cell (i := 3) rfl
  have c4 := hO.cell (i := 4) rfl
  have c5 := hO.cell (i := 5) rfl
  have c6 := hO.cell (i := 6) rfl
  have c7 := hO.cell (i := 7) rfl
  have c8 := hO.cell (i := 8) rfl
  have c9 := hO.cell (i := 9) rfl
  have c10 := hO.cell (i := 10) rfl
  have c11 := hO.cell (i := 11) rfl
  have c12 := hO.cell (i := 12) rfl
  have c13 := hO.cell (i := 13) rfl
  have c14 := hO.cell (i := 14) rfl
  have c15 := hO.cell (i := 15) rfl
  have hh0 := hH.cell (i := 0) rfl
  have hf0 := hH.free 0
  have HH := Lib.hid hH
  have HBS := Lib.hid hbs
  clear hO hH hbs
  go_enter Tryz.func72, Tryz.ntmps72
  go_wp2_with fail
  refine (newHistogram73_no ck ba bn bc fac zt maxZero maxB mr mex ttl t0 gs gc w hck hg hgs hf bs spare hlen hcp HBS.out hasc).mono ?_
  rintro e w1 ⟨⟨t, v, rfl⟩, ho⟩
  have HO := Lib.hid ho
  clear hh0 hf0 ho
  go_wp2_with fail
  exact ⟨rfl, ⟨_, _, rfl⟩, HO.out⟩

set_option maxRecDepth 100000 in
theorem doorHistogram_no (ck : Nat) (ba : Option Addr) (bn bc fac zt maxZero : Nat) (maxB mr mex ttl t0 : Int) (gs : Addr) (gc : Nat) (w : World) (hck : w.cell? ⟨ck, 0, none⟩ = some (.int .i64 t0))
    (hg : w.cell? ⟨2, 0, none⟩ = some (.slice (some gs) 1 gc)) (hgs : w.cell? gs = some (.int .u8 255))
    (hf : (FloatKind.f64.format.order fac 4607182418800017408 == some .lt || FloatKind.f64.format.order fac 4607182418800017408 == some .eq) = true) (bs : List Nat) (spare : List Value) (hlen : bs.length ≤ 1048577) (hcp : bn ≤ bc) (hbs : bn = 0 ∧ bs = defBs ∧ spare = [] ∨ 0 < bn ∧ bn = bs.length ∧ ∃ u, ba = some ⟨u, 0, none⟩ ∧ IsBlock w u (f64s bs ++ spare)) (hasc : ¬ Asc bs) (hba : bn = 0 → ba = none) :
    Calls Tryz.prog 51 #[.agg #[.string ⟨#[]⟩, .string ⟨#[]⟩, .string ⟨#[104]⟩, .string ⟨#[]⟩, .string ⟨#[]⟩, .map none, .slice ba bn bc, .float .f64 fac, .float .f64 zt, .int .u32 maxB, .int .i64 mr, .float .f64 maxZero, .int .i64 mex, .int .i64 ttl, .nilFunc, .nilFunc], .pointer (some ⟨ck, 0, none⟩)] w fun e w' => e = .returned .nilIface ∧ Only (fun _ => False) w w' := by
  have hmf : ∀ (fn : Fn) (first cap : Array Value) (w : World), (Instr.makeFunc fn first cap).run Tryz.prog w = .ok (.func fn first cap) w := fun _ _ _ _ => rfl
  have HBS := Lib.hid hbs
  have HASC := Lib.hid hasc
  clear hbs hasc
  have hO := IsBlock.new w [.string ⟨#[]⟩, .string ⟨#[]⟩, .string ⟨#[104]⟩, .string ⟨#[]⟩, .string ⟨#[]⟩, .map none, .slice ba bn bc, .float .f64 fac, .float .f64 zt, .int .u32 maxB, .int .i64 mr, .float .f64 maxZero, .int .i64 mex, .int .i64 ttl, .nilFunc, .nilFunc] 121
  have c14 := hO.cell (i := 14) rfl
  have f14 := hO.free 14
  have hO2 := hO.set 14 (.func (.func 70) #[.pointer (some ⟨ck, 0, none⟩)] #[])
  have c15 := hO2.cell (i := 15) rfl
  have f15 := hO2.free 15
  have HO := Lib.hid (hO2.set 15 (.func (.func 71) #[.pointer (some ⟨ck, 0, none⟩)] #[]))
  clear hO hO2
  go_enter Tryz.func51, Tryz.ntmps51
  go_wp2_with fail
  refine (?_ : ∀ w0, w0 = _ → Calls Tryz.prog 53 _ w0 _) _ rfl
  intro w0 hw0
  have HO0 : IsBlock w0 w.heap.size (oCells2 ck ba bn bc fac zt maxZero maxB mr mex ttl) := by rw [hw0]; exact (IsBlock.new w (oCells2 ck ba bn bc fac zt maxZero maxB mr mex ttl) 121).alloc _
  have HH0 : IsBlock w0 (w.heap.size + 1) [.nilIface] := by rw [hw0]; exact blk_new _ [.nilIface] 114 _ (World.size_alloc _ _).symm
  have HB0 : Below w.heap.size w w0 := by rw [hw0]; exact ((Below.refl _ w).alloc (Nat.le_refl _) _).alloc (by simp) _
  have hs0 : w0.heap.size = w.heap.size + 2 := by rw [hw0]; simp
  have HB1 : Below w.heap.size w (w0.alloc (.cells #[.bool false] 4)) := HB0.alloc (by omega) _
  clear hw0 c14 f14 c15 f15 HO
  refine (doorTry_no 72 _ w0 (fun w' => Only (fun _ => False) (w0.alloc (.cells #[.bool false] 4)) w') (fun _ => rfl) ?_).mono ?_
  · refine (doorHistogram1_no ck ba bn bc fac zt maxZero maxB mr mex ttl t0 gs gc w.heap.size (w.heap.size + 1) _ (bcell HB1 rfl hck) (bcell HB1 rfl hg) (bcell HB1 rfl hgs) hf bs spare hlen hcp (HBS.out.imp id (fun ⟨a, b, u, c, q⟩ => ⟨a, b, u, c, bblock HB1 rfl q⟩)) HASC.out (HO0.alloc _) (HH0.alloc _) ?_).mono ?_
    · intro a ha
      rcases HBS.out with ⟨h0, _, _⟩ | ⟨_, _, u, hu, hq⟩
      · rw [hba h0] at ha; cases ha
      · rw [hu] at ha; cases ha; have := hq.lt; show ¬ u = _; omega
    · rintro e w1 ⟨hp, hon⟩
      exact ⟨hp, hon.isBlock (IsBlock.new w0 [.bool false] 4) id, hon⟩
  · rintro e w2 ⟨rfl, w1, hon, hw2⟩
    have h2 : IsBlock w2 (w.heap.size + 1) [.nilIface] := by
      rw [hw2]; exact (hon.isBlock (HH0.alloc _) id).set_ne (a := ⟨w0.heap.size, 0, none⟩) (by show w.heap.size + 1 ≠ w0.heap.size; omega) _
    have c2 := h2.cell (i := 0) rfl
    have HF : Hid (Only (fun _ => False) w w2) := Lib.hid (by
      rw [hw2]
      exact (((only_of_below HB0).alloc _).trans hon).setCell (p := ⟨w0.heap.size, 0, none⟩) (.inr (by show w.heap.size ≤ w0.heap.size; omega)) _)
    clear hw2 h2 hon
    go_wp2_with fail
    go_ret
    exact ⟨rfl, HF.out⟩
end Go.Proofs.YtebjclmbacmilaaGreatDoor

namespace Go.Proofs.YtebjclmbacmilaaGreatDoor
open Go.RowKit

set_option maxRecDepth 100000 in
set_option maxHeartbeats 1600000 in
theorem histRun_no (ba : Option Addr) (bn bc : Nat) (fac zt : Nat) (maxB mr : Int) (maxZero : Nat) (mex ttl t0 : Int) (sl : Value) (gs : Addr) (gc : Nat) (bs : List Nat) (w : World)
    (hg : w.cell? ⟨2, 0, none⟩ = some (.slice (some gs) 1 gc)) (hgs : w.cell? gs = some (.int .u8 255))
    (hf : (FloatKind.f64.format.order fac 4607182418800017408 == some .lt || FloatKind.f64.format.order fac 4607182418800017408 == some .eq) = true)
    (hb : SrcIs w (.slice ba bn bc) 1 bs.length (f64s bs)) (hlen : bs.length ≤ 1048577) (hasc : ¬ Asc (effBs bs)) :
    Calls Tryz.prog 28 #[.agg #[.slice ba bn bc, .float .f64 fac, .float .f64 zt, .int .u32 maxB, .int .i64 mr, .float .f64 maxZero, .int .i64 mex, .int .i64 ttl], .int .i64 t0, sl] w fun e w' => e = .returned (.tuple #[.slice none 0 0, .slice none 0 0, .bool false]) ∧ Only (fun _ => False) w w' := by
  obtain ⟨i0, hi, hz0, hz1, hz2⟩ := info_parts info25
  have hmf : ∀ (fn : Fn) (first cap : Array Value) (w : World), (Instr.makeFunc fn first cap).run Tryz.prog w = .ok (.func fn first cap) w := fun _ _ _ _ => rfl
  have hS2 : IsBlock ((w.alloc (.cells (sVals (.slice ba bn bc) fac zt maxB mr maxZero mex ttl).toArray 69)).alloc (.cells #[.int .i64 t0, .slice none 0 0] 162)) w.heap.size (sVals (.slice ba bn bc) fac zt maxB mr maxZero mex ttl) := (IsBlock.new w _ 69).alloc _
  have hC2 : IsBlock ((w.alloc (.cells (sVals (.slice ba bn bc) fac zt maxB mr maxZero mex ttl).toArray 69)).alloc (.cells #[.int .i64 t0, .slice none 0 0] 162)) (w.heap.size + 1) [.int .i64 t0, .slice none 0 0] := blk_new _ _ _ _ (World.size_alloc _ _).symm
  have hO2 : Only (fun _ => False) w ((w.alloc (.cells (sVals (.slice ba bn bc) fac zt maxB mr maxZero mex ttl).toArray 69)).alloc (.cells #[.int .i64 t0, .slice none 0 0] 162)) := ((Only.refl _ w).alloc _).alloc _
  have hZ2 : ((w.alloc (.cells (sVals (.slice ba bn bc) fac zt maxB mr maxZero mex ttl).toArray 69)).alloc (.cells #[.int .i64 t0, .slice none 0 0] 162)).heap.size = w.heap.size + 2 := by simp
  have hB2 : SrcIs ((w.alloc (.cells (sVals (.slice ba bn bc) fac zt maxB mr maxZero mex ttl).toArray 69)).alloc (.cells #[.int .i64 t0, .slice none 0 0] 162)) (.slice ba bn bc) 1 bs.length (f64s bs) := hb.mono (fun a v h => cell_past (cell_past h _) _)
  have HASC := Lib.hid hasc
  have HLEN := Lib.hid hlen
  have HG := Lib.hid hg
  have HGS := Lib.hid hgs
  have HF := Lib.hid hf
  clear hb hasc hlen hg hgs hf
  go_enter Tryz.func28, Tryz.ntmps28
  go_upto_region 2 with (go_at_call 50; refine (newClock_any _ _).mono ?_; rintro e w' ⟨rfl, rfl⟩)
  refine (?_ : ∀ w2, w2 = (w.alloc (.cells (sVals (.slice ba bn bc) fac zt maxB mr maxZero mex ttl).toArray 69)).alloc (.cells #[.int .i64 t0, .slice none 0 0] 162) → Code.wp _ _ _ _ w2) _ rfl
  intro w2 hw2
  rw [← hw2] at hS2 hC2 hO2 hZ2 hB2
  have HC2 := Lib.hid hC2
  have HO2 := Lib.hid hO2
  have HZ2 := Lib.hid hZ2
  have HB2 := Lib.hid hB2
  clear hw2 hC2 hO2 hZ2 hB2
  have hc8 := cells8 hS2
  have hz2lt : w.heap.size < w2.heap.size := by have := HZ2.out; omega
  go_cut [10] from 17 to 36 (fun v10 wx => ∃ (hb : Nat), v10 = .pointer (some ⟨hb, 0, none⟩) ∧ IsBlock wx hb [.nilIface] ∧ Only (fun _ => False) w wx)
  case first =>
    go_region_held3 (fun wx => wx.cell? ⟨w.heap.size, 0, none⟩ = some (.slice ba bn bc) ∧ wx.cell? ⟨w.heap.size, 1, none⟩ = some (.float .f64 fac) ∧ wx.cell? ⟨w.heap.size, 2, none⟩ = some (.float .f64 zt) ∧ wx.cell? ⟨w.heap.size, 3, none⟩ = some (.int .u32 maxB) ∧ wx.cell? ⟨w.heap.size, 4, none⟩ = some (.int .i64 mr) ∧ wx.cell? ⟨w.heap.size, 5, none⟩ = some (.float .f64 maxZero) ∧ wx.cell? ⟨w.heap.size, 6, none⟩ = some (.int .i64 mex) ∧ wx.cell? ⟨w.heap.size, 7, none⟩ = some (.int .i64 ttl))
      ((refine cells8 ?_; repeat (first | assumption | apply IsBlock.drew | apply IsBlock.alloc | (refine IsBlock.set_ne ?_ (Nat.ne_of_lt (by assumption)) _))))
      (first
        | (refine step_append_src _ (by rfl) _ _ _ (by rfl) _ 25 i0 _ 1 8 Tryz.underlying22 hi hz0 hz1 hz2 rfl (by omega) (.slice none 0 0) 0 [] (by rfl) (World.ownsRow_nil _ _ _ _) (.slice ba bn bc) bs.length (f64s bs) (by rfl) (SrcIs.mono HB2.out (fun _ _ h => (by first | exact h | exact cell_past h _))) (one_f64s bs) (by have := HLEN.out; unfold maxLen; omega) (by have := HLEN.out; omega) (Nat.le_refl _) ?_
           intro v3 w3 hown3 hgr3 hnil3
           rw [Nat.zero_add, List.nil_append] at hown3
           obtain ⟨ba3, bc3, rfl⟩ := ownsRow_slice hown3
           have hO23 := only_grown (a := w2) (by repeat (first | exact Only.refl _ _ | apply Only.drew | apply Only.alloc)) hgr3
           have hS3 := hO23.isBlock hS2 id
           have hC3 := hO23.isBlock HC2.out id
           have hO3 := HO2.out.trans hO23
           obtain ⟨spare, hcap3, hbs3, hba3, hlo3⟩ := bounds_fit hown3 (fun h => hnil3 h rfl)
           have HBS3 := Lib.hid hbs3
           have HBA3 := Lib.hid hba3
           have HLO3 := Lib.hid hlo3
           have HGR3 := Lib.hid hgr3.size
           have hz3lt : w.heap.size < w3.heap.size := by have := hO23.size; omega
           try have hh3 : IsBlock w3 w2.heap.size [.nilIface] := IsBlock.grown (IsBlock.new w2 [.nilIface] 114).drew hgr3 (fun e => (by cases e))
           clear hown3 hgr3 hnil3 hbs3 hba3 hlo3 hO23)
        | (go_at_call 51
           refine (doorHistogram_no (w.heap.size + 1) ba3 bs.length bc3 fac zt maxZero maxB mr mex ttl t0 gs gc _ (by first | exact hC3.cell rfl | exact (hC3.alloc _).cell rfl) (by first | exact hO3.cell HG.out id | exact (hO3.alloc _).cell HG.out id) (by first | exact hO3.cell HGS.out id | exact (hO3.alloc _).cell HGS.out id) HF.out (effBs bs) spare (effBs_len HLEN.out) hcap3 (by first | exact HBS3.out | exact HBS3.out.imp id (fun ⟨a, b, u, c, q⟩ => ⟨a, b, u, c, q.alloc _⟩)) HASC.out HBA3.out).mono ?_
           rintro e w4 ⟨rfl, hon4⟩
           have hO34 : Only (fun _ => False) w3 w4 := Only.trans (by first | exact Only.refl _ _ | exact (Only.refl _ _).alloc _) hon4
           have hO4 := hO3.trans hO34
           have hS4 := hO34.isBlock hS3 id
           try have hh4 := hO34.isBlock hh3 id
           try have hh4 : IsBlock w4 w3.heap.size [.nilIface] := hon4.isBlock (IsBlock.new w3 [.nilIface] 114) id
           try have hc4 := hh4.cell (i := 0) rfl
           try have hf4 := hh4.free 0
           clear hon4))
    · go_wp2_with fail
      go_meet
      exact ⟨w4.heap.size, rfl, blk_new _ _ _ _ rfl, hO4.alloc _⟩
    · go_wp2_with fail
      go_meet
      exact ⟨w3.heap.size, rfl, hh4.set 0 _, hO4.setCell (p := ⟨w3.heap.size, 0, none⟩) (.inr (by have := hO3.size; exact this)) _⟩
    · go_wp2_with fail
      go_meet
      exact ⟨w2.heap.size, rfl, hh4.set 0 _, hO4.setCell (p := ⟨w2.heap.size, 0, none⟩) (.inr (by have := HO2.out.size; exact this)) _⟩
  obtain ⟨hb, rfl, hB, hO⟩ := hcut
  have cv := hB.cell (i := 0) rfl
  have HFN := Lib.hid hO
  clear hc8 hS2 hz2lt HC2 HO2 HZ2 HB2 HG HGS hB hO
  go_wp2_with fail
  go_ret3
  exact ⟨rfl, HFN.out⟩
end Go.Proofs.YtebjclmbacmilaaGreatDoor

namespace Go.Proofs.YtebjclmbacmilaaGreatDoor
open Go.RowKit

theorem order_zero : (FloatKind.f64.format.order 0 4607182418800017408 == some .lt || FloatKind.f64.format.order 0 4607182418800017408 == some .eq) = true := by decide +kernel

set_option maxRecDepth 100000 in
set_option maxHeartbeats 1600000 in
theorem fnRefused_nan (ba : Option Addr) (bc : Nat) (bs : List Nat) (gs : Addr) (gc : Nat) (w : World) (hg : w.cell? ⟨2, 0, none⟩ = some (.slice (some gs) 1 gc)) (hgs : w.cell? gs = some (.int .u8 255))
    (hc : InCells w ba bs) (hlen : bs.length ≤ 1048577) (hnum : ¬ ∀ b ∈ bs, Fl.isNaN b = false) :
    Calls Tryz.prog 8 #[.slice ba bs.length bc] w fun e w' => e = .returned (.bool true) ∧ Only (fun _ => False) w w' := by
  have hlen' : ¬ (2147483647 : Int) < (bs.length : Int) := by omega
  have HNB := Lib.hid (histNumbers_any ba bc bs w hc hlen)
  have HNUM := Lib.hid hnum
  have HG := Lib.hid hg
  have HGS := Lib.hid hgs
  clear hg hgs hc hlen hnum
  go_enter Tryz.func8, Tryz.ntmps8
  go_wp2_with fail
  refine HNB.out.mono ?_
  rintro e w1 ⟨hp, d, hw1⟩
  obtain ⟨rfl, _⟩ := hp.resolve_left (fun h => HNUM.out h.2)
  have hO1 : Only (fun _ => False) w w1 := by rw [hw1]; exact (Only.refl _ w).drewN d
  have HLV := Lib.hid (histLives_any gs gc w1 (hO1.cell HG.out id) (hO1.cell HGS.out id))
  have HO1 := Lib.hid hO1
  clear hw1 hO1 hp
  go_wp2_with fail
  refine HLV.out.mono ?_
  rintro e w3 ⟨rfl, h3⟩
  have H3 := Lib.hid h3
  clear h3
  go_wp2_with fail
  go_ret
  exact ⟨rfl, HO1.out.trans H3.out⟩

theorem InCells.mono {w w' : World} {ba : Option Addr} {bs : List Nat} (h : InCells w ba bs) (ho : Only (fun _ => False) w w') : InCells w' ba bs := fun i hi => by
  obtain ⟨b, off, he, hc⟩ := h i hi
  exact ⟨b, off, he, ho.cell hc id⟩

set_option maxRecDepth 100000 in
set_option maxHeartbeats 1600000 in
theorem fnRefused_asc (ba : Option Addr) (bc : Nat) (bs : List Nat) (gs : Addr) (gc : Nat) (w : World) (hg : w.cell? ⟨2, 0, none⟩ = some (.slice (some gs) 1 gc)) (hgs : w.cell? gs = some (.int .u8 255))
    (hc : InCells w ba bs) (hsrc : SrcIs w (.slice ba bs.length bc) 1 bs.length (f64s bs)) (hlen : bs.length ≤ 1048577) (hnum : ∀ b ∈ bs, Fl.isNaN b = false) (hasc : Asc bs) :
    Calls Tryz.prog 8 #[.slice ba bs.length bc] w fun e w' => e = .returned (.bool true) ∧ Only (fun _ => False) w w' := by
  have hlen' : ¬ (2147483647 : Int) < (bs.length : Int) := by omega
  have HNB := Lib.hid (histNumbers_any ba bc bs w hc hlen)
  have HNUM := Lib.hid hnum
  have HC := Lib.hid hc
  have HS := Lib.hid hsrc
  have HL := Lib.hid hlen
  have HA := Lib.hid hasc
  have HG := Lib.hid hg
  have HGS := Lib.hid hgs
  clear hg hgs hc hsrc hlen hnum hasc
  go_enter Tryz.func8, Tryz.ntmps8
  go_wp2_with fail
  refine HNB.out.mono ?_
  rintro e w1 ⟨hp, d, hw1⟩
  obtain ⟨rfl, _⟩ := hp.resolve_right (fun h => h.2 HNUM.out)
  have hO1 : Only (fun _ => False) w w1 := by rw [hw1]; exact (Only.refl _ w).drewN d
  have HR := Lib.hid (histRun_plain ba bs.length bc 0 0 0 0 0 0 0 0 none 0 [] w1.heap.size gs gc bs w1 (hO1.cell HG.out id) (hO1.cell HGS.out id) order_zero (HS.out.mono (fun a v h => hO1.cell h id)) HL.out (asc_eff.2 HA.out) (incr_cut (incr_of_asc (nan_eff HNUM.out) (asc_eff.2 HA.out))) (World.ownsRow_nil _ _ _ _) (by simp) (fun x hx => by cases hx))
  have HO1 := Lib.hid hO1
  clear hw1 hO1 hp
  go_wp2_with fail
  refine HR.out.mono ?_
  rintro e w2 ⟨hs, vo, vt, rfl, _, _, _, _, ho2⟩
  have HO2 := Lib.hid (HO1.out.trans ho2)
  clear ho2
  go_wp2_with fail
  have HST := Lib.hid (histSorted_num ba bc bs w2 (HC.out.mono HO2.out) HL.out HNUM.out)
  refine HST.out.mono ?_
  rintro e w3 ⟨hp, d3, hw3⟩
  obtain ⟨rfl, _⟩ := hp.resolve_right (fun h => h.2 HA.out)
  have hO3 : Only (fun _ => False) w w3 := by rw [hw3]; exact HO2.out.drewN d3
  have HLV := Lib.hid (histLives_any gs gc w3 (hO3.cell HG.out id) (hO3.cell HGS.out id))
  have HO3 := Lib.hid hO3
  clear hw3 hO3 hp
  go_wp2_with fail
  refine HLV.out.mono ?_
  rintro e w4 ⟨rfl, h4⟩
  have H4 := Lib.hid h4
  clear h4
  go_wp2_with fail
  go_ret
  exact ⟨rfl, HO3.out.trans H4.out⟩

set_option maxRecDepth 100000 in
set_option maxHeartbeats 1600000 in
theorem fnRefused_not (ba : Option Addr) (bc : Nat) (bs : List Nat) (gs : Addr) (gc : Nat) (w : World) (hg : w.cell? ⟨2, 0, none⟩ = some (.slice (some gs) 1 gc)) (hgs : w.cell? gs = some (.int .u8 255))
    (hc : InCells w ba bs) (hsrc : SrcIs w (.slice ba bs.length bc) 1 bs.length (f64s bs)) (hlen : bs.length ≤ 1048577) (hnum : ∀ b ∈ bs, Fl.isNaN b = false) (hasc : ¬ Asc bs) :
    Calls Tryz.prog 8 #[.slice ba bs.length bc] w fun e w' => e = .returned (.bool true) ∧ Only (fun _ => False) w w' := by
  have hlen' : ¬ (2147483647 : Int) < (bs.length : Int) := by omega
  have HNB := Lib.hid (histNumbers_any ba bc bs w hc hlen)
  have HNUM := Lib.hid hnum
  have HC := Lib.hid hc
  have HS := Lib.hid hsrc
  have HL := Lib.hid hlen
  have HA := Lib.hid hasc
  have HG := Lib.hid hg
  have HGS := Lib.hid hgs
  clear hg hgs hc hsrc hlen hnum hasc
  go_enter Tryz.func8, Tryz.ntmps8
  go_wp2_with fail
  refine HNB.out.mono ?_
  rintro e w1 ⟨hp, d, hw1⟩
  obtain ⟨rfl, _⟩ := hp.resolve_right (fun h => h.2 HNUM.out)
  have hO1 : Only (fun _ => False) w w1 := by rw [hw1]; exact (Only.refl _ w).drewN d
  have HR := Lib.hid (histRun_no ba bs.length bc 0 0 0 0 0 0 0 0 (.slice none 0 0) gs gc bs w1 (hO1.cell HG.out id) (hO1.cell HGS.out id) order_zero (HS.out.mono (fun a v h => hO1.cell h id)) HL.out (fun h => HA.out (asc_eff.1 h)))
  have HO1 := Lib.hid hO1
  clear hw1 hO1 hp
  go_wp2_with fail
  refine HR.out.mono ?_
  rintro e w2 ⟨rfl, ho2⟩
  have HO2 := Lib.hid (HO1.out.trans ho2)
  clear ho2
  go_wp2_with fail
  have HST := Lib.hid (histSorted_num ba bc bs w2 (HC.out.mono HO2.out) HL.out HNUM.out)
  refine HST.out.mono ?_
  rintro e w3 ⟨hp, d3, hw3⟩
  obtain ⟨rfl, _⟩ := hp.resolve_left (fun h => HA.out h.2)
  have hO3 : Only (fun _ => False) w w3 := by rw [hw3]; exact HO2.out.drewN d3
  have HLV := Lib.hid (histLives_any gs gc w3 (hO3.cell HG.out id) (hO3.cell HGS.out id))
  have HO3 := Lib.hid hO3
  clear hw3 hO3 hp
  go_wp2_with fail
  refine HLV.out.mono ?_
  rintro e w4 ⟨rfl, h4⟩
  have H4 := Lib.hid h4
  clear h4
  go_wp2_with fail
  go_ret
  exact ⟨rfl, HO3.out.trans H4.out⟩

theorem fnRefused_any (ba : Option Addr) (bc : Nat) (bs : List Nat) (gs : Addr) (gc : Nat) (w : World) (hg : w.cell? ⟨2, 0, none⟩ = some (.slice (some gs) 1 gc)) (hgs : w.cell? gs = some (.int .u8 255))
    (hc : InCells w ba bs) (hsrc : SrcIs w (.slice ba bs.length bc) 1 bs.length (f64s bs)) (hlen : bs.length ≤ 1048577) :
    Calls Tryz.prog 8 #[.slice ba bs.length bc] w fun e w' => e = .returned (.bool true) ∧ Only (fun _ => False) w w' := by
  by_cases hnum : ∀ b ∈ bs, Fl.isNaN b = false
  · by_cases hasc : Asc bs
    · exact fnRefused_asc ba bc bs gs gc w hg hgs hc hsrc hlen hnum hasc
    · exact fnRefused_not ba bc bs gs gc w hg hgs hc hsrc hlen hnum hasc
  · exact fnRefused_nan ba bc bs gs gc w hg hgs hc hlen hnum
end Go.Proofs.YtebjclmbacmilaaGreatDoor
