/- Contract of the closure in DoorHistogram, bounds in order. Conditions: as stated. Contract of DoorHistogram, classic, bounds in order. Conditions: as stated. -/
import Derived.Test.YtebjclmbacmilaaGreatDoorxNi
import Derived.Test.YtebjclmbacmilaaGreatDoorxTr
import Derived.Laws.EntriesVeiled
namespace Go.Proofs.YtebjclmbacmilaaGreatDoor
open Go.RowKit

set_option maxRecDepth 100000 in
theorem doorHistogram1 (ck : Nat) (ba : Option Addr) (bn bc fac zt maxZero : Nat) (maxB mr mex ttl t0 : Int) (gs : Addr) (gc : Nat) (ob hb : Nat) (w : World) (hck : w.cell? ⟨ck, 0, none⟩ = some (.int .i64 t0))
    (hg : w.cell? ⟨2, 0, none⟩ = some (.slice (some gs) 1 gc)) (hgs : w.cell? gs = some (.int .u8 255))
    (hf : (FloatKind.f64.format.order fac 4607182418800017408 == some .lt || FloatKind.f64.format.order fac 4607182418800017408 == some .eq) = true) (bs : List Nat) (spare : List Value) (hlen : bs.length ≤ 1048577) (hcp : bn ≤ bc) (hbs : bn = 0 ∧ bs = defBs ∧ spare = [] ∨ 0 < bn ∧ bn = bs.length ∧ ∃ u, ba = some ⟨u, 0, none⟩ ∧ IsBlock w u (f64s bs ++ spare)) (hasc : Asc bs) (hO : IsBlock w ob (oCells2 ck ba bn bc fac zt maxZero maxB mr mex ttl)) (hH : IsBlock w hb [.nilIface]) (hbu : ∀ a, ba = some a → a.block ≠ hb) :
    Calls Tryz.prog 72 #[.pointer (some ⟨ob, 0, none⟩), .pointer (some ⟨hb, 0, none⟩)] w fun e w' => e = .returned (.tuple #[]) ∧ ∃ p, IsBlock w' hb [.iface 227 (.pointer (some ⟨p.h, 0, none⟩))] ∧ HIn w' p (newS (cutBs bs) (-2147483648) 0 maxZero maxB mr t0 0 (.slice none 0 0)) ∧ (∀ k, p.own k → w.heap.size ≤ k) ∧ (ba = some ⟨p.u, 0, none⟩ ∨ w.heap.size ≤ p.u) ∧ (p.now = .func (.func 70) #[.pointer (some ⟨ck, 0, none⟩)] #[] ∧ p.labels = .slice none 0 0) ∧ Only (fun k => k = hb) w w' := by
  have c0 := hO.cell (i := 0) rfl
  have c1 := hO.cell (i := 1) rfl
  have c2 := hO.cell (i := 2) rfl
  have c3 := hO.cell (i := 3) rfl
  have c4 := hO.cell (i := 4) rfl
  have c5 := hO.cell (i := 5) rfl
  have c6 := hO.cell (i := 6) rfl
  have c7 := hO.cell (i := 7) rfl
  have c8 := hO.cell (i := 8) rfl
  have c9 := hO.cell (i := 9) rfl
  have c10 := hO.cell (i := 10) rfl
  have c11 := hO.cell (i := 11) rfl
  have c12 := hO.cell (i := 12) rfl
  have c13 := hO.cell (i := 13) rfl
  have c14 := hO.cell (i := 14) rfl
  have c15 := hO.cell (i := 15) rfl
  have hh0 := hH.cell (i := 0) rfl
  have hf0 := hH.free 0
  have HH := Lib.hid hH
  have HBS := Lib.hid hbs
  clear hO hH hbs
  go_enter Tryz.func72, Tryz.ntmps72
  go_wp2_with fail
  refine (newHistogram73 ck ba bn bc fac zt maxZero maxB mr mex ttl t0 gs gc w hck hg hgs hf bs spare hlen hcp HBS.out hasc).mono ?_
  rintro e w1 ⟨d, p, rfl, hin, hat⟩
  have c := hat.only.cell hh0 id
  have f := (hat.only.isBlock HH.out id).free 0
  have HIN := Lib.hid hin
  have HAT := Lib.hid hat
  clear hh0 hf0 hin hat
  go_wp2_with fail
  first | go_end0 | refine bodyPost_ret (results_none rfl _ _ _) rfl ?_
  have hl := HH.out.lt
  have hat := HAT.out
  have o1 : Only (fun k => k = hb) w (w1.setCell ⟨hb, 0, none⟩ (.iface 227 (.pointer (some ⟨p.h, 0, none⟩)))) := (hat.only.mono (T := fun k => k = hb) (fun _ _ h => h.elim)).setCell (p := ⟨hb, 0, none⟩) (.inl rfl) _
  refine ⟨rfl, p, (hat.only.isBlock HH.out id).set 0 _, HIN.out.mono ((Only.refl (fun k => k = hb) w1).setCell (p := ⟨hb, 0, none⟩) (.inl rfl) _) (fun k hk => ?_), hat.own, hat.u, ⟨hat.now, hat.labels⟩, o1⟩
  rcases hk with rfl | hk
  · rcases hat.u with h | h
    · exact hbu _ h
    · show ¬ p.u = hb; omega
  · have := hat.own k hk; show ¬ k = hb; omega
end Go.Proofs.YtebjclmbacmilaaGreatDoor

namespace Go.Proofs.YtebjclmbacmilaaGreatDoor
open Go.RowKit

set_option maxRecDepth 100000 in
theorem doorHistogram_ok (ck : Nat) (ba : Option Addr) (bn bc fac zt maxZero : Nat) (maxB mr mex ttl t0 : Int) (gs : Addr) (gc : Nat) (w : World) (hck : w.cell? ⟨ck, 0, none⟩ = some (.int .i64 t0))
    (hg : w.cell? ⟨2, 0, none⟩ = some (.slice (some gs) 1 gc)) (hgs : w.cell? gs = some (.int .u8 255))
    (hf : (FloatKind.f64.format.order fac 4607182418800017408 == some .lt || FloatKind.f64.format.order fac 4607182418800017408 == some .eq) = true) (bs : List Nat) (spare : List Value) (hlen : bs.length ≤ 1048577) (hcp : bn ≤ bc) (hbs : bn = 0 ∧ bs = defBs ∧ spare = [] ∨ 0 < bn ∧ bn = bs.length ∧ ∃ u, ba = some ⟨u, 0, none⟩ ∧ IsBlock w u (f64s bs ++ spare)) (hasc : Asc bs) (hba : bn = 0 → ba = none) :
    Calls Tryz.prog 51 #[.agg #[.string ⟨#[]⟩, .string ⟨#[]⟩, .string ⟨#[104]⟩, .string ⟨#[]⟩, .string ⟨#[]⟩, .map none, .slice ba bn bc, .float .f64 fac, .float .f64 zt, .int .u32 maxB, .int .i64 mr, .float .f64 maxZero, .int .i64 mex, .int .i64 ttl, .nilFunc, .nilFunc], .pointer (some ⟨ck, 0, none⟩)] w fun e w' => ∃ p, e = .returned (.iface 227 (.pointer (some ⟨p.h, 0, none⟩))) ∧ HIn w' p (newS (cutBs bs) (-2147483648) 0 maxZero maxB mr t0 0 (.slice none 0 0)) ∧ (∀ k, p.own k → w.heap.size ≤ k) ∧ (ba = some ⟨p.u, 0, none⟩ ∨ w.heap.size ≤ p.u) ∧ (p.now = .func (.func 70) #[.pointer (some ⟨ck, 0, none⟩)] #[] ∧ p.labels = .slice none 0 0) ∧ Below w.heap.size w w' := by
  have hmf : ∀ (fn : Fn) (first cap : Array Value) (w : World), (Instr.makeFunc fn first cap).run Tryz.prog w = .ok (.func fn first cap) w := fun _ _ _ _ => rfl
  have HBS := Lib.hid hbs
  have HASC := Lib.hid hasc
  clear hbs hasc
  have hO := IsBlock.new w [.string ⟨#[]⟩, .string ⟨#[]⟩, .string ⟨#[104]⟩, .string ⟨#[]⟩, .string ⟨#[]⟩, .map none, .slice ba bn bc, .float .f64 fac, .float .f64 zt, .int .u32 maxB, .int .i64 mr, .float .f64 maxZero, .int .i64 mex, .int .i64 ttl, .nilFunc, .nilFunc] 121
  have c14 := hO.cell (i := 14) rfl
  have f14 := hO.free 14
  have hO2 := hO.set 14 (.func (.func 70) #[.pointer (some ⟨ck, 0, none⟩)] #[])
  have c15 := hO2.cell (i := 15) rfl
  have f15 := hO2.free 15
  have HO := Lib.hid (hO2.set 15 (.func (.func 71) #[.pointer (some ⟨ck, 0, none⟩)] #[]))
  clear hO hO2
  go_enter Tryz.func51, Tryz.ntmps51
  go_wp2_with fail
  refine (?_ : ∀ w0, w0 = _ → Calls Tryz.prog 53 _ w0 _) _ rfl
  intro w0 hw0
  have HO0 : IsBlock w0 w.heap.size (oCells2 ck ba bn bc fac zt maxZero maxB mr mex ttl) := by rw [hw0]; exact (IsBlock.new w (oCells2 ck ba bn bc fac zt maxZero maxB mr mex ttl) 121).alloc _
  have HH0 : IsBlock w0 (w.heap.size + 1) [.nilIface] := by rw [hw0]; exact blk_new _ [.nilIface] 114 _ (World.size_alloc _ _).symm
  have HB0 : Below w.heap.size w w0 := by rw [hw0]; exact ((Below.refl _ w).alloc (Nat.le_refl _) _).alloc (by simp) _
  have hs0 : w0.heap.size = w.heap.size + 2 := by rw [hw0]; simp
  have HB1 : Below w.heap.size w (w0.alloc (.cells #[.bool false] 4)) := HB0.alloc (by omega) _
  clear hw0 c14 f14 c15 f15 HO
  refine (doorTry_ok 72 _ w0 (fun w' => ∃ p : Pl, IsBlock w' (w.heap.size + 1) [.iface 227 (.pointer (some ⟨p.h, 0, none⟩))] ∧ HIn w' p (newS (cutBs bs) (-2147483648) 0 maxZero maxB mr t0 0 (.slice none 0 0)) ∧ (∀ k, p.own k → w0.heap.size < k) ∧ (ba = some ⟨p.u, 0, none⟩ ∨ w0.heap.size < p.u) ∧ (p.now = .func (.func 70) #[.pointer (some ⟨ck, 0, none⟩)] #[] ∧ p.labels = .slice none 0 0) ∧ Only (fun k => k = w.heap.size + 1) (w0.alloc (.cells #[.bool false] 4)) w') (fun _ => rfl) ?_).mono ?_
  · refine (doorHistogram1 ck ba bn bc fac zt maxZero maxB mr mex ttl t0 gs gc w.heap.size (w.heap.size + 1) _ (bcell HB1 rfl hck) (bcell HB1 rfl hg) (bcell HB1 rfl hgs) hf bs spare hlen hcp (HBS.out.imp id (fun ⟨a, b, u, c, q⟩ => ⟨a, b, u, c, bblock HB1 rfl q⟩)) HASC.out (HO0.alloc _) (HH0.alloc _) ?_).mono ?_
    · intro a ha
      rcases HBS.out with ⟨h0, _, _⟩ | ⟨_, _, u, hu, hq⟩
      · rw [hba h0] at ha; cases ha
      · rw [hu] at ha; cases ha; have := hq.lt; show ¬ u = _; omega
    · rintro e w1 ⟨rfl, p, hh, hin, hown, hu, hnow, hon⟩
      refine ⟨rfl, hon.isBlock (IsBlock.new w0 [.bool false] 4) (by show ¬ _ = _; omega), p, hh, hin, fun k hk => ?_, hu.imp id (fun h => ?_), hnow, hon⟩
      · have := hown k hk; rw [World.size_alloc] at this; omega
      · rw [World.size_alloc] at h; omega
  · rintro e w2 ⟨rfl, w1, ⟨p, hh, hin, hown, hu, hnow, hon⟩, hw2⟩
    have hs1 : (w0.alloc (.cells #[.bool false] 4)).heap.size = w0.heap.size + 1 := World.size_alloc _ _
    have o2 : Only (fun k => k = w0.heap.size) w1 w2 := by rw [hw2]; exact (Only.refl (fun k => k = w0.heap.size) w1).setCell (p := ⟨w0.heap.size, 0, none⟩) (.inl rfl) _
    have h2 : IsBlock w2 (w.heap.size + 1) _ := o2.isBlock hh (by show ¬ _ = _; omega)
    have c2 := h2.cell (i := 0) rfl
    have hin2 : HIn w2 p (newS (cutBs bs) (-2147483648) 0 maxZero maxB mr t0 0 (.slice none 0 0)) := hin.mono o2 (fun k hk => by
      rcases hk with rfl | hk
      · rcases hu with h | h
        · rcases HBS.out with ⟨h0, _, _⟩ | ⟨_, _, u, hu', hq⟩
          · rw [hba h0] at h; cases h
          · rw [hu'] at h; cases h; have := hq.lt; show ¬ p.u = _; omega
        · show ¬ p.u = _; omega
      · have := hown k hk; show ¬ k = _; omega)
    have hb2 : Below w.heap.size w w2 := HB1.trans ((hon.below (by rw [hs1]; omega) (fun k hk => by omega)).trans (o2.below (by have := hon.size; omega) (fun k hk => by omega)))
    have HF := Lib.hid (show ∃ p' : Pl, p'.h = p.h ∧ HIn w2 p' (newS (cutBs bs) (-2147483648) 0 maxZero maxB mr t0 0 (.slice none 0 0)) ∧ (∀ k, p'.own k → w.heap.size ≤ k) ∧ (ba = some ⟨p'.u, 0, none⟩ ∨ w.heap.size ≤ p'.u) ∧ (p'.now = .func (.func 70) #[.pointer (some ⟨ck, 0, none⟩)] #[] ∧ p'.labels = .slice none 0 0) ∧ Below w.heap.size w w2 from
      ⟨p, rfl, hin2, fun k hk => by have := hown k hk; omega, hu.imp id (fun h => by omega), hnow, hb2⟩)
    clear hw2 o2 h2 hin2 hb2 hin hh hon hown hu
    go_wp2_with fail
    go_ret
    obtain ⟨p', h1, h2⟩ := HF.out
    refine ⟨p', ?_, h2⟩
    rw [h1]; rfl
end Go.Proofs.YtebjclmbacmilaaGreatDoor
