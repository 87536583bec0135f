/- Contract of the closure in DoorHistogram, bounds in order. Conditions: as stated. -/
import Derived.Test.YtebjclmbacmilaaGreatDoorNi
import Derived.Test.YtebjclmbacmilaaGreatDoorTr
namespace Go.Proofs.YtebjclmbacmilaaGreatDoor
open Go.RowKit

set_option maxRecDepth 100000 in
theorem doorHistogram1 (ck : Nat) (ba : Option Addr) (bn bc fac zt maxZero : Nat) (maxB mr mex ttl t0 : Int) (gs : Addr) (gc : Nat) (ob hb : Nat) (w : World) (hck : w.cell? ⟨ck, 0, none⟩ = some (.int .i64 t0))
    (hg : w.cell? ⟨2, 0, none⟩ = some (.slice (some gs) 1 gc)) (hgs : w.cell? gs = some (.int .u8 255))
    (hf : (FloatKind.f64.format.order fac 4607182418800017408 == some .lt || FloatKind.f64.format.order fac 4607182418800017408 == some .eq) = true) (bs : List Nat) (spare : List Value) (hlen : bs.length ≤ 1048577) (hcp : bn ≤ bc) (hbs : bn = 0 ∧ bs = defBs ∧ spare = [] ∨ 0 < bn ∧ bn = bs.length ∧ ∃ u, ba = some ⟨u, 0, none⟩ ∧ IsBlock w u (f64s bs ++ spare)) (hasc : Asc bs) (hO : IsBlock w ob (oCells2 ck ba bn bc fac zt maxZero maxB mr mex ttl)) (hH : IsBlock w hb [.nilIface]) (hbu : ∀ a, ba = some a → a.block ≠ hb) :
    Calls Tryz.prog 72 #[.pointer (some ⟨ob, 0, none⟩), .pointer (some ⟨hb, 0, none⟩)] w fun e w' => e = .returned (.tuple #[]) ∧ ∃ p, IsBlock w' hb [.iface 227 (.pointer (some ⟨p.h, 0, none⟩))] ∧ HIn w' p (newS (cutBs bs) (-2147483648) 0 maxZero maxB mr t0 0 (.slice none 0 0)) ∧ (∀ k, p.own k → w.heap.size ≤ k) ∧ (ba = some ⟨p.u, 0, none⟩ ∨ w.heap.size ≤ p.u) ∧ (p.now = .func (.func 70) #[.pointer (some ⟨ck, 0, none⟩)] #[] ∧ p.labels = .slice none 0 0) ∧ Only (fun k => k = hb) w w' := by
  have c0 := hO.cell (i := 0) rfl
  have c1 := hO.cell (i := 1) rfl
  have c2 := hO.cell (i := 2) rfl
  have c3 := hO.cell (i := 3) rfl
  have c4 := hO.cell (i := 4) rfl
  have c5 := hO.cell (i := 5) rfl
  have c6 := hO.cell (i := 6) rfl
  have c7 := hO.cell (i := 7) rfl
  have c8 := hO.cell (i := 8) rfl
  have c9 := hO.cell (i := 9) rfl
  have c10 := hO.cell (i := 10) rfl
  have c11 := hO.cell (i := 11) rfl
  have c12 := hO.cell (i := 12) rfl
  have c13 := hO.cell (i := 13) rfl
  have c14 := hO.cell (i := 14) rfl
  have c15 := hO.cell (i := 15) rfl
  have hh0 := hH.cell (i := 0) rfl
  have hf0 := hH.free 0
  have HH := Lib.hid hH
  have HBS := Lib.hid hbs
  clear hO hH hbs
  go_enter Tryz.func72, Tryz.ntmps72
  go_wp2_with fail
  refine (newHistogram73 ck ba bn bc fac zt maxZero maxB mr mex ttl t0 gs gc w hck hg hgs hf bs spare hlen hcp HBS.out hasc).mono ?_
  rintro e w1 ⟨d, p, rfl, hin, hat⟩
  have c := hat.only.cell hh0 id
  have f := (hat.only.isBlock HH.out id).free 0
  have HIN := Lib.hid hin
  have HAT := Lib.hid hat
  clear hh0 hf0 hin hat
  go_wp2_with fail
  first | go_end0 | refine bodyPost_ret (results_none rfl _ _ _) rfl ?_
  have hl := HH.out.lt
  have hat := HAT.out
  have o1 : Only (fun k => k = hb) w (w1.setCell ⟨hb, 0, none⟩ (.iface 227 (.pointer (some ⟨p.h, 0, none⟩)))) := (hat.only.mono (T := fun k => k = hb) (fun _ _ h => h.elim)).setCell (p := ⟨hb, 0, none⟩) (.inl rfl) _
  refine ⟨rfl, p, (hat.only.isBlock HH.out id).set 0 _, HIN.out.mono ((Only.refl (fun k => k = hb) w1).setCell (p := ⟨hb, 0, none⟩) (.inl rfl) _) (fun k hk => ?_), hat.own, hat.u, ⟨hat.now, hat.labels⟩, o1⟩
  rcases hk with rfl | hk
  · rcases hat.u with h | h
    · exact hbu _ h
    · show ¬ p.u = hb; omega
  · have := hat.own k hk; show ¬ k = hb; omega
end Go.Proofs.YtebjclmbacmilaaGreatDoor
