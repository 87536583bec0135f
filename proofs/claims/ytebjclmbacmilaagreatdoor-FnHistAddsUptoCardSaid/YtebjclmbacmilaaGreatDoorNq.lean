/- DoorHistogram and its closure where the bounds are out of order: a panic, caught. Conditions: as stated. -/
import Derived.Test.YtebjclmbacmilaaGreatDoorNk
import Derived.Test.YtebjclmbacmilaaGreatDoorNp
namespace Go.Proofs.YtebjclmbacmilaaGreatDoor
open Go.RowKit

set_option maxRecDepth 100000 in
theorem doorHistogram1_no (ck : Nat) (ba : Option Addr) (bn bc fac zt maxZero : Nat) (maxB mr mex ttl t0 : Int) (gs : Addr) (gc : Nat) (ob hb : Nat) (w : World) (hck : w.cell? ⟨ck, 0, none⟩ = some (.int .i64 t0))
    (hg : w.cell? ⟨2, 0, none⟩ = some (.slice (some gs) 1 gc)) (hgs : w.cell? gs = some (.int .u8 255))
    (hf : (FloatKind.f64.format.order fac 4607182418800017408 == some .lt || FloatKind.f64.format.order fac 4607182418800017408 == some .eq) = true) (bs : List Nat) (spare : List Value) (hlen : bs.length ≤ 1048577) (hcp : bn ≤ bc) (hbs : bn = 0 ∧ bs = defBs ∧ spare = [] ∨ 0 < bn ∧ bn = bs.length ∧ ∃ u, ba = some ⟨u, 0, none⟩ ∧ IsBlock w u (f64s bs ++ spare)) (hasc : ¬ Asc bs) (hO : IsBlock w ob (oCells2 ck ba bn bc fac zt maxZero maxB mr mex ttl)) (hH : IsBlock w hb [.nilIface]) (_hbu : ∀ a, ba = some a → a.block ≠ hb) :
    Calls Tryz.prog 72 #[.pointer (some ⟨ob, 0, none⟩), .pointer (some ⟨hb, 0, none⟩)] w fun e w' => (∃ t v, e = .panicked [{ v := .iface t v, recovered := false }]) ∧ Only (fun _ => False) w w' := by
  have c0 := hO.cell (i := 0) rfl
  have c1 := hO.cell (i := 1) rfl
  have c2 := hO.cell (i := 2) rfl
  have c3 := hO.cell (i := 3) rfl
  have c4 := hO.cell (i := 4) rfl
  have c5 := hO.cell (i := 5) rfl
  have c6 := hO.cell (i := 6) rfl
  have c7 := hO.cell (i := 7) rfl
  have c8 := hO.cell (i := 8) rfl
  have c9 := hO.cell (i := 9) rfl
  have c10 := hO.cell (i := 10) rfl
  have c11 := hO.cell (i := 11) rfl
  have c12 := hO.cell (i := 12) rfl
  have c13 := hO.cell (i := 13) rfl
  have c14 := hO.cell (i := 14) rfl
  have c15 := hO.cell (i := 15) rfl
  have hh0 := hH.cell (i := 0) rfl
  have hf0 := hH.free 0
  have HH := Lib.hid hH
  have HBS := Lib.hid hbs
  clear hO hH hbs
  go_enter Tryz.func72, Tryz.ntmps72
  go_wp2_with fail
  refine (newHistogram73_no ck ba bn bc fac zt maxZero maxB mr mex ttl t0 gs gc w hck hg hgs hf bs spare hlen hcp HBS.out hasc).mono ?_
  rintro e w1 ⟨⟨t, v, rfl⟩, ho⟩
  have HO := Lib.hid ho
  clear hh0 hf0 ho
  go_wp2_with fail
  exact ⟨rfl, ⟨_, _, rfl⟩, HO.out⟩

set_option maxRecDepth 100000 in
theorem doorHistogram_no (ck : Nat) (ba : Option Addr) (bn bc fac zt maxZero : Nat) (maxB mr mex ttl t0 : Int) (gs : Addr) (gc : Nat) (w : World) (hck : w.cell? ⟨ck, 0, none⟩ = some (.int .i64 t0))
    (hg : w.cell? ⟨2, 0, none⟩ = some (.slice (some gs) 1 gc)) (hgs : w.cell? gs = some (.int .u8 255))
    (hf : (FloatKind.f64.format.order fac 4607182418800017408 == some .lt || FloatKind.f64.format.order fac 4607182418800017408 == some .eq) = true) (bs : List Nat) (spare : List Value) (hlen : bs.length ≤ 1048577) (hcp : bn ≤ bc) (hbs : bn = 0 ∧ bs = defBs ∧ spare = [] ∨ 0 < bn ∧ bn = bs.length ∧ ∃ u, ba = some ⟨u, 0, none⟩ ∧ IsBlock w u (f64s bs ++ spare)) (hasc : ¬ Asc bs) (hba : bn = 0 → ba = none) :
    Calls Tryz.prog 51 #[.agg #[.string ⟨#[]⟩, .string ⟨#[]⟩, .string ⟨#[104]⟩, .string ⟨#[]⟩, .string ⟨#[]⟩, .map none, .slice ba bn bc, .float .f64 fac, .float .f64 zt, .int .u32 maxB, .int .i64 mr, .float .f64 maxZero, .int .i64 mex, .int .i64 ttl, .nilFunc, .nilFunc], .pointer (some ⟨ck, 0, none⟩)] w fun e w' => e = .returned .nilIface ∧ Only (fun _ => False) w w' := by
  have hmf : ∀ (fn : Fn) (first cap : Array Value) (w : World), (Instr.makeFunc fn first cap).run Tryz.prog w = .ok (.func fn first cap) w := fun _ _ _ _ => rfl
  have HBS := Lib.hid hbs
  have HASC := Lib.hid hasc
  clear hbs hasc
  have hO := IsBlock.new w [.string ⟨#[]⟩, .string ⟨#[]⟩, .string ⟨#[104]⟩, .string ⟨#[]⟩, .string ⟨#[]⟩, .map none, .slice ba bn bc, .float .f64 fac, .float .f64 zt, .int .u32 maxB, .int .i64 mr, .float .f64 maxZero, .int .i64 mex, .int .i64 ttl, .nilFunc, .nilFunc] 121
  have c14 := hO.cell (i := 14) rfl
  have f14 := hO.free 14
  have hO2 := hO.set 14 (.func (.func 70) #[.pointer (some ⟨ck, 0, none⟩)] #[])
  have c15 := hO2.cell (i := 15) rfl
  have f15 := hO2.free 15
  have HO := Lib.hid (hO2.set 15 (.func (.func 71) #[.pointer (some ⟨ck, 0, none⟩)] #[]))
  clear hO hO2
  go_enter Tryz.func51, Tryz.ntmps51
  go_wp2_with fail
  refine (?_ : ∀ w0, w0 = _ → Calls Tryz.prog 53 _ w0 _) _ rfl
  intro w0 hw0
  have HO0 : IsBlock w0 w.heap.size (oCells2 ck ba bn bc fac zt maxZero maxB mr mex ttl) := by rw [hw0]; exact (IsBlock.new w (oCells2 ck ba bn bc fac zt maxZero maxB mr mex ttl) 121).alloc _
  have HH0 : IsBlock w0 (w.heap.size + 1) [.nilIface] := by rw [hw0]; exact blk_new _ [.nilIface] 114 _ (World.size_alloc _ _).symm
  have HB0 : Below w.heap.size w w0 := by rw [hw0]; exact ((Below.refl _ w).alloc (Nat.le_refl _) _).alloc (by simp) _
  have hs0 : w0.heap.size = w.heap.size + 2 := by rw [hw0]; simp
  have HB1 : Below w.heap.size w (w0.alloc (.cells #[.bool false] 4)) := HB0.alloc (by omega) _
  clear hw0 c14 f14 c15 f15 HO
  refine (doorTry_no 72 _ w0 (fun w' => Only (fun _ => False) (w0.alloc (.cells #[.bool false] 4)) w') (fun _ => rfl) ?_).mono ?_
  · refine (doorHistogram1_no ck ba bn bc fac zt maxZero maxB mr mex ttl t0 gs gc w.heap.size (w.heap.size + 1) _ (bcell HB1 rfl hck) (bcell HB1 rfl hg) (bcell HB1 rfl hgs) hf bs spare hlen hcp (HBS.out.imp id (fun ⟨a, b, u, c, q⟩ => ⟨a, b, u, c, bblock HB1 rfl q⟩)) HASC.out (HO0.alloc _) (HH0.alloc _) ?_).mono ?_
    · intro a ha
      rcases HBS.out with ⟨h0, _, _⟩ | ⟨_, _, u, hu, hq⟩
      · rw [hba h0] at ha; cases ha
      · rw [hu] at ha; cases ha; have := hq.lt; show ¬ u = _; omega
    · rintro e w1 ⟨hp, hon⟩
      exact ⟨hp, hon.isBlock (IsBlock.new w0 [.bool false] 4) id, hon⟩
  · rintro e w2 ⟨rfl, w1, hon, hw2⟩
    have h2 : IsBlock w2 (w.heap.size + 1) [.nilIface] := by
      rw [hw2]; exact (hon.isBlock (HH0.alloc _) id).set_ne (a := ⟨w0.heap.size, 0, none⟩) (by show w.heap.size + 1 ≠ w0.heap.size; omega) _
    have c2 := h2.cell (i := 0) rfl
    have HF : Hid (Only (fun _ => False) w w2) := Lib.hid (by
      rw [hw2]
      exact (((only_of_below HB0).alloc _).trans hon).setCell (p := ⟨w0.heap.size, 0, none⟩) (.inr (by show w.heap.size ≤ w0.heap.size; omega)) _)
    clear hw2 h2 hon
    go_wp2_with fail
    go_ret
    exact ⟨rfl, HF.out⟩
end Go.Proofs.YtebjclmbacmilaaGreatDoor
