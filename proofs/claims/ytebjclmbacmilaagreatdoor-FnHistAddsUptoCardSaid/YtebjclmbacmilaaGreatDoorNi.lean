/- Contract of NewHistogram, classic, bounds in order. Conditions: as stated. -/
import Derived.Test.YtebjclmbacmilaaGreatDoorNh
namespace Go.Proofs.YtebjclmbacmilaaGreatDoor
open Go.RowKit

theorem withUnit_any (s : ByteArray) (w : World) :
    Calls Tryz.prog 91 #[.string s] w fun e w' => e = .returned (.func (.func 121) #[] #[.pointer (some ⟨w.heap.size, 0, none⟩)]) ∧ w' = w.alloc (.cells #[.string s] 9) := by
  have hmf : ∀ (fn : Fn) (first cap : Array Value) (w : World), (Instr.makeFunc fn first cap).run Tryz.prog w = .ok (.func fn first cap) w := fun _ _ _ _ => rfl
  go_enter Tryz.func91, Tryz.ntmps91
  go_wp2_with fail
  go_ret
  exact ⟨rfl, rfl⟩

def oCells2 (ck : Nat) (ba : Option Addr) (bn bc fac zt maxZero : Nat) (maxB mr mex ttl : Int) : List Value :=
  oCells ck (.slice ba bn bc) (.func (.func 71) #[.pointer (some ⟨ck, 0, none⟩)] #[]) fac zt maxZero maxB mr mex ttl

theorem below_al {b : Nat} {w1 wc : World} (hb : w1.heap.size = b) (h : Below b w1 wc) (o : Obj) : Below b w1 (wc.alloc o) := h.alloc (by have := h.size; omega) o
theorem below_st {b : Nat} {w1 wc w' : World} (hb : w1.heap.size = b) (h : Below b w1 wc) (k : Below wc.heap.size wc w') : Below b w1 w' := h.trans (k.mono (by have := h.size; omega))

theorem blk_new (w : World) (cs : List Value) (T : TypeId) (k : Nat) (h : k = w.heap.size) : IsBlock (w.alloc (.cells cs.toArray T)) k cs := by subst h; exact IsBlock.new w cs T
theorem below_of_only {w w' : World} (h : Only (fun _ => False) w w') : Below w.heap.size w w' := ⟨h.os, h.tape, h.output, h.size, fun k hk => h.block k hk id⟩
theorem only_of_below {w w' : World} (h : Below w.heap.size w w') : Only (fun _ => False) w w' := ⟨h.os, h.tape, h.output, h.size, fun k hk _ => h.block k hk⟩
theorem NewAt.mono {w wz w' : World} {ba : Option Addr} {d ck : Nat} {p : Pl} (h : NewAt wz w' ba d ck p) (hb : Below w.heap.size w wz) : NewAt w w' ba d ck p :=
  { h with own := fun k hk => Nat.le_trans hb.size (h.own k hk), u := h.u.imp id (Nat.le_trans hb.size), only := (only_of_below hb).trans h.only }

set_option maxRecDepth 100000 in
set_option maxHeartbeats 1600000 in
theorem newHistogram73 (ck : Nat) (ba : Option Addr) (bn bc fac zt maxZero : Nat) (maxB mr mex ttl t0 : Int) (gs : Addr) (gc : Nat) (w : World) (hck : w.cell? ⟨ck, 0, none⟩ = some (.int .i64 t0))
    (hg : w.cell? ⟨2, 0, none⟩ = some (.slice (some gs) 1 gc)) (hgs : w.cell? gs = some (.int .u8 255))
    (hf : (FloatKind.f64.format.order fac 4607182418800017408 == some .lt || FloatKind.f64.format.order fac 4607182418800017408 == some .eq) = true) (bs : List Nat) (spare : List Value) (hlen : bs.length ≤ 1048577) (hcp : bn ≤ bc) (hbs : bn = 0 ∧ bs = defBs ∧ spare = [] ∨ 0 < bn ∧ bn = bs.length ∧ ∃ u, ba = some ⟨u, 0, none⟩ ∧ IsBlock w u (f64s bs ++ spare)) (hasc : Asc bs) :
    Calls Tryz.prog 73 #[.agg #[.string ⟨#[]⟩, .string ⟨#[]⟩, .string ⟨#[104]⟩, .string ⟨#[]⟩, .string ⟨#[]⟩, .map none, .slice ba bn bc, .float .f64 fac, .float .f64 zt, .int .u32 maxB, .int .i64 mr, .float .f64 maxZero, .int .i64 mex, .int .i64 ttl, .func (.func 70) #[.pointer (some ⟨ck, 0, none⟩)] #[], .func (.func 71) #[.pointer (some ⟨ck, 0, none⟩)] #[]]] w
      fun e w' => ∃ d p, e = .returned (.iface 227 (.pointer (some ⟨p.h, 0, none⟩))) ∧ HIn w' p (newS (cutBs bs) (-2147483648) 0 maxZero maxB mr t0 0 (.slice none 0 0)) ∧ NewAt w w' ba d ck p := by
  have HBS := Lib.hid hbs
  have HASC := Lib.hid hasc
  clear hbs hasc
  go_enter Tryz.func73, Tryz.ntmps73
  go_upto_region 1 with fail
  have hO := IsBlock.new w (oCells2 ck ba bn bc fac zt maxZero maxB mr mex ttl) 121
  have hW : Below w.heap.size w (w.alloc (.cells (oCells2 ck ba bn bc fac zt maxZero maxB mr mex ttl).toArray 121)) := (Below.refl _ w).alloc (Nat.le_refl _) _
  refine (?_ : ∀ w1, w1 = w.alloc (.cells (oCells2 ck ba bn bc fac zt maxZero maxB mr mex ttl).toArray 121) → Code.wp _ _ _ _ w1) _ rfl
  intro w1 hw1
  rw [← hw1] at hO hW
  have hs1 : w1.heap.size = w.heap.size + 1 := by rw [hw1]; simp
  have HO := Lib.hid hO
  have HW := Lib.hid hW
  have HS : Hid (∀ wx, Below (w.heap.size + 1) w1 wx → Below (w.heap.size + 1) w1 wx ∧ wx.cell? ⟨w.heap.size, 0, none⟩ = some (.string ⟨#[]⟩) ∧ wx.cell? ⟨w.heap.size, 1, none⟩ = some (.string ⟨#[]⟩) ∧ wx.cell? ⟨w.heap.size, 2, none⟩ = some (.string ⟨#[104]⟩) ∧ wx.cell? ⟨w.heap.size, 3, none⟩ = some (.string ⟨#[]⟩) ∧ wx.cell? ⟨w.heap.size, 4, none⟩ = some (.string ⟨#[]⟩) ∧ wx.cell? ⟨w.heap.size, 5, none⟩ = some (.map none) ∧ wx.cell? ⟨w.heap.size, 6, none⟩ = some (.slice ba bn bc) ∧ wx.cell? ⟨w.heap.size, 7, none⟩ = some (.float .f64 fac) ∧ wx.cell? ⟨w.heap.size, 8, none⟩ = some (.float .f64 zt) ∧ wx.cell? ⟨w.heap.size, 9, none⟩ = some (.int .u32 maxB) ∧ wx.cell? ⟨w.heap.size, 10, none⟩ = some (.int .i64 mr) ∧ wx.cell? ⟨w.heap.size, 11, none⟩ = some (.float .f64 maxZero) ∧ wx.cell? ⟨w.heap.size, 12, none⟩ = some (.int .i64 mex) ∧ wx.cell? ⟨w.heap.size, 13, none⟩ = some (.int .i64 ttl) ∧ wx.cell? ⟨w.heap.size, 14, none⟩ = some (.func (.func 70) #[.pointer (some ⟨ck, 0, none⟩)] #[]) ∧ wx.cell? ⟨w.heap.size, 15, none⟩ = some (.func (.func 71) #[.pointer (some ⟨ck, 0, none⟩)] #[]) ∧ wx.cell? ⟨2, 0, none⟩ = some (.slice (some gs) 1 gc) ∧ wx.cell? gs = some (.int .u8 255) ∧ wx.cell? ⟨ck, 0, none⟩ = some (.int .i64 t0)) := Lib.hid (fun wx hb =>
    have o := bblock hb hs1 HO.out
    ⟨hb, o.cell rfl, o.cell rfl, o.cell rfl, o.cell rfl, o.cell rfl, o.cell rfl, o.cell rfl, o.cell rfl, o.cell rfl, o.cell rfl, o.cell rfl, o.cell rfl, o.cell rfl, o.cell rfl, o.cell rfl, o.cell rfl, bcell hb hs1 (bcell HW.out rfl hg), bcell hb hs1 (bcell HW.out rfl hgs), bcell hb hs1 (bcell HW.out rfl hck)⟩)
  obtain ⟨b0, c0, c1, c2, c3, c4, c5, c6, c7, c8, c9, c10, c11, c12, c13, c14, c15, c16, c17, c18⟩ := HS.out w1 (Below.refl _ _)
  clear hw1 hO hW hck hg hgs
  go_region_held3 (fun wx => Below (w.heap.size + 1) w1 wx ∧ wx.cell? ⟨w.heap.size, 0, none⟩ = some (.string ⟨#[]⟩) ∧ wx.cell? ⟨w.heap.size, 1, none⟩ = some (.string ⟨#[]⟩) ∧ wx.cell? ⟨w.heap.size, 2, none⟩ = some (.string ⟨#[104]⟩) ∧ wx.cell? ⟨w.heap.size, 3, none⟩ = some (.string ⟨#[]⟩) ∧ wx.cell? ⟨w.heap.size, 4, none⟩ = some (.string ⟨#[]⟩) ∧ wx.cell? ⟨w.heap.size, 5, none⟩ = some (.map none) ∧ wx.cell? ⟨w.heap.size, 6, none⟩ = some (.slice ba bn bc) ∧ wx.cell? ⟨w.heap.size, 7, none⟩ = some (.float .f64 fac) ∧ wx.cell? ⟨w.heap.size, 8, none⟩ = some (.float .f64 zt) ∧ wx.cell? ⟨w.heap.size, 9, none⟩ = some (.int .u32 maxB) ∧ wx.cell? ⟨w.heap.size, 10, none⟩ = some (.int .i64 mr) ∧ wx.cell? ⟨w.heap.size, 11, none⟩ = some (.float .f64 maxZero) ∧ wx.cell? ⟨w.heap.size, 12, none⟩ = some (.int .i64 mex) ∧ wx.cell? ⟨w.heap.size, 13, none⟩ = some (.int .i64 ttl) ∧ wx.cell? ⟨w.heap.size, 14, none⟩ = some (.func (.func 70) #[.pointer (some ⟨ck, 0, none⟩)] #[]) ∧ wx.cell? ⟨w.heap.size, 15, none⟩ = some (.func (.func 71) #[.pointer (some ⟨ck, 0, none⟩)] #[]) ∧ wx.cell? ⟨2, 0, none⟩ = some (.slice (some gs) 1 gc) ∧ wx.cell? gs = some (.int .u8 255) ∧ wx.cell? ⟨ck, 0, none⟩ = some (.int .i64 t0))
    ((refine HS.out _ ?_; repeat (first | exact Below.refl _ _ | assumption | exact And.left (by assumption) | refine Below.drew ?_ | refine below_al hs1 ?_ _ | refine below_st hs1 ?_ (by assumption))))
    (first
      | (go_at_call 90; refine (buildFQName_h _).mono ?_; rintro e w' ⟨rfl, hbl⟩)
      | (go_at_call 91; refine (withUnit_any _ _).mono ?_; rintro e w' ⟨rfl, rfl⟩)
      | (go_at_call 89; refine (newDesc_h _ _ gs gc _ (blk_new _ _ _ _ (World.size_alloc _ _).symm) (by first | exact IsBlock.alloc (blk_new _ _ _ _ rfl) _ | exact IsBlock.alloc (bblock hbl rfl (blk_new _ _ _ _ rfl)) _) (HS.out _ (by (repeat (first | exact Below.refl _ _ | assumption | exact And.left (by assumption) | refine Below.drew ?_ | refine below_al hs1 ?_ _ | refine below_st hs1 ?_ (by assumption))))).2.2.2.2.2.2.2.2.2.2.2.2.2.2.2.2.2.1 (HS.out _ (by (repeat (first | exact Below.refl _ _ | assumption | exact And.left (by assumption) | refine Below.drew ?_ | refine below_al hs1 ?_ _ | refine below_st hs1 ?_ (by assumption))))).2.2.2.2.2.2.2.2.2.2.2.2.2.2.2.2.2.2.1).mono ?_; rintro e w2 ⟨pp, s2, s3, rfl, hd, hn, hbl2⟩; (simp only [World.size_alloc] at hd hn))
      | (go_at_call 88; have hb0 : Below w.heap.size w w2 := HW.out.trans ((by (repeat (first | exact Below.refl _ _ | assumption | exact And.left (by assumption) | refine Below.drew ?_ | refine below_al hs1 ?_ _ | refine below_st hs1 ?_ (by assumption))) : Below (w.heap.size + 1) w1 w2).mono (Nat.le_succ _)); refine (newHistogram_plain _ _ _ ck _ ba bn bc fac zt maxZero maxB mr mex ttl t0 _ rfl rfl hd hn (HS.out _ (by (repeat (first | exact Below.refl _ _ | assumption | exact And.left (by assumption) | refine Below.drew ?_ | refine below_al hs1 ?_ _ | refine below_st hs1 ?_ (by assumption))))).2.2.2.2.2.2.2.2.2.2.2.2.2.2.2.2.2.2.2 hf bs spare hlen hcp (HBS.out.imp id (fun ⟨a, b, u, c, q⟩ => ⟨a, b, u, c, bblock (HW.out.trans ((by (repeat (first | exact Below.refl _ _ | assumption | exact And.left (by assumption) | refine Below.drew ?_ | refine below_al hs1 ?_ _ | refine below_st hs1 ?_ (by assumption))) : Below (w.heap.size + 1) w1 _).mono (Nat.le_succ _))) rfl q⟩))).mono ?_; intro e w3 hp; obtain ⟨_, q, rfl, hin, hat⟩ := hp.resolve_right (fun h => h.1 HASC.out); have hbl3 := below_of_only hat.only; have hfin := hat.mono hb0; clear hat hb0))
  go_wp2_with fail
  go_ret
  exact ⟨_, _, rfl, by assumption, by assumption⟩
end Go.Proofs.YtebjclmbacmilaaGreatDoor
