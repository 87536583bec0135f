/- The function literal of HistRun at a native histogram: the one writing. Conditions: as stated. A step of HistRun at a native histogram, inside DoorTry. Conditions: as stated. HistRun of the thin package with native buckets (the factor 2), no bounds: observations and one writing at the end. Conditions: as stated. -/
import Derived.Test.YtebjclmbacmilaaGreatDoorHw
import Derived.Test.YtebjclmbacmilaaGreatDoorWo
import Derived.Test.YtebjclmbacmilaaGreatDoorxMp
import Derived.Test.YtebjclmbacmilaaGreatDoorSt
import Derived.Test.YtebjclmbacmilaaGreatDoorxAp
import Derived.Test.YtebjclmbacmilaaGreatDoorHr
import Derived.Maps.AppendAt
namespace Go.Proofs.YtebjclmbacmilaaGreatDoor
open Go.RowKit

/-- What a written native histogram holds. -/
structure NRec where
  cnt : Nat
  sum : Nat
  created : Int
  zt : Nat
  zc : Nat
  a1 : Option Addr
  c1 : Nat
  a2 : Option Addr
  c2 : Nat
  a3 : Option Addr
  c3 : Nat
  a4 : Option Addr
  c4 : Nat
  Ln : List Sp
  Lp : List Sp
  tn : List Int
  tp : List Int
def NRec.rn (r : NRec) : Value := .slice r.a1 r.Ln.length r.c1
def NRec.rp (r : NRec) : Value := .slice r.a2 r.Lp.length r.c2
def NRec.dn (r : NRec) : Value := .slice r.a3 r.tn.length r.c3
def NRec.dp (r : NRec) : Value := .slice r.a4 r.tp.length r.c4
def NRec.cells (r : NRec) : List Value := hNVals r.cnt r.sum r.created true 0 r.zt r.zc r.rn r.rp r.dn r.dp
structure NRIn (w : World) (base : Nat) (r : NRec) : Prop where
  rn : w.ownsRow base 213 2 r.rn r.Ln.length (runRow r.Ln)
  rp : w.ownsRow base 213 2 r.rp r.Lp.length (runRow r.Lp)
  dn : w.ownsRow base 2 1 r.dn r.tn.length (ints64 r.tn)
  dp : w.ownsRow base 2 1 r.dp r.tp.length (ints64 r.tp)
  len : r.Ln.length ≤ 536870912 ∧ r.Lp.length ≤ 536870912 ∧ r.tn.length ≤ 1073741824 ∧ r.tp.length ≤ 1073741824
theorem NRIn.kept {w w' : World} {base : Nat} {r : NRec} (H : NRIn w base r) {S : Nat → Prop} (ho : Only S w w') (hS : ∀ k, S k → k < base) : NRIn w' base r :=
  ⟨ho.ownsRow H.rn (fun k hk e => by have := hS k e; have := (H.rn.lt k hk).1; omega), ho.ownsRow H.rp (fun k hk e => by have := hS k e; have := (H.rp.lt k hk).1; omega), ho.ownsRow H.dn (fun k hk e => by have := hS k e; have := (H.dn.lt k hk).1; omega), ho.ownsRow H.dp (fun k hk e => by have := hS k e; have := (H.dp.lt k hk).1; omega), H.len⟩
theorem NRIn.lower {w : World} {base base' : Nat} {r : NRec} (H : NRIn w base r) (hb : base' ≤ base) : NRIn w base' r := ⟨ownsRow_lower H.rn hb, ownsRow_lower H.rp hb, ownsRow_lower H.dn hb, ownsRow_lower H.dp hb, H.len⟩
theorem NRec.one (r : NRec) : ∀ u ∈ r.cells, u.oneCell' = true := by
  intro u hu
  simp only [NRec.cells, hNVals, List.mem_cons, List.mem_nil_iff, or_false] at hu
  rcases hu with rfl | rfl | rfl | rfl | rfl | rfl | rfl | rfl | rfl | rfl | rfl | rfl | rfl <;> rfl

/-- histOf, as a record. -/
theorem histOf_rec (q : NQ) (A cnt sum zt zc m : Nat) (created : Int) (vns vnd vps vpd : Value) (tn tp : MS) (w : World) (D : NDone w A q cnt sum zt zc created 0 vns vnd vps vpd tn tp) (hm : m ≤ 268435456) (h1 : tn.sp.length ≤ m) (h2 : tn.ds.length ≤ 3 * m) (h3 : tp.sp.length ≤ m + 1) (h4 : tp.ds.length ≤ 3 * m) :
    Calls Tryz.prog 56 #[.pointer (some ⟨q.g, 0, none⟩)] w fun e w' => ∃ r : NRec, e = .returned (.agg #[.int .u64 r.cnt, .float .f64 r.sum, .slice none 0 0, .int .i64 r.created, .bool true, .int .i32 0, .float .f64 r.zt, .int .u64 r.zc, .slice r.a1 r.Ln.length r.c1, .slice r.a2 r.Lp.length r.c2, .slice r.a3 r.tn.length r.c3, .slice r.a4 r.tp.length r.c4, .slice none 0 0]) ∧ r.cnt = cnt ∧ NRIn w' (w.heap.size + 2) r ∧ Only (fun _ => False) w w' := by
  obtain ⟨⟨a1, c1, rfl⟩, a2, c2, rfl⟩ := D.neg.slices
  obtain ⟨⟨a3, c3, rfl⟩, a4, c4, rfl⟩ := D.pos.slices
  refine (histOf_nat q A cnt sum zt zc created 0 (a1, c1) (a2, c2) (a3, c3) (a4, c4) tn tp w D ⟨by omega, by omega, by omega, by omega⟩).mono ?_
  rintro e w' ⟨rn, rp, dn, dp, Ln, Lp, rfl, r1, r2, r3, r4, r5, r6, r7⟩
  obtain ⟨b1, d1, rfl⟩ := ownsRow_slice r1
  obtain ⟨b2, d2, rfl⟩ := ownsRow_slice r2
  obtain ⟨b3, d3, rfl⟩ := ownsRow_slice r3
  obtain ⟨b4, d4, rfl⟩ := ownsRow_slice r4
  refine ⟨⟨cnt, sum, created, zt, zc, b1, d1, b2, d2, b3, d3, b4, d4, Ln, Lp, tn.ds, tp.ds⟩, rfl, rfl, ⟨r1, r2, r3, r4, ?_⟩, r7⟩
  have e5 := congrArg List.length r5
  have e6 := congrArg List.length r6
  rw [List.length_map] at e5 e6
  dsimp only
  omega

set_option maxRecDepth 100000 in
set_option maxHeartbeats 1600000 in
theorem step_write_nat (x hb ob : Nat) (p : Pl) (s : HSt) (Z : Bool → Nat → Prop) (m : Nat) (w : World) (H : NHIn w p s Z m) (hm : m ≤ 268435456) (hlab : p.labels = .slice none 0 0) (hnex : ∃ a c, s.nex = .slice (some a) 0 c)
    (c0 : w.cell? ⟨x, 0, none⟩ = some (.int .i64 2)) (ch : w.cell? ⟨hb, 0, none⟩ = some (.iface 227 (.pointer (some ⟨p.h, 0, none⟩)))) (O : IsBlock w ob [.slice none 0 0]) (hob : ∀ k, p.nown k ∨ (∃ i, Z i k) → k ≠ ob) :
    Calls Tryz.prog 54 #[.pointer (some ⟨x, 0, none⟩), .pointer (some ⟨hb, 0, none⟩), .pointer (some ⟨ob, 0, none⟩)] w fun e w' => e = .returned (.tuple #[]) ∧
      ∃ (g c : Nat) (r : NRec), IsBlock w' ob [.slice (some ⟨g, 0, none⟩) 1 c] ∧ w'.ownsRow w.heap.size 92 13 (.slice (some ⟨g, 0, none⟩) 1 c) 1 r.cells ∧ NRIn w' w.heap.size r ∧ r.cnt = s.n ∧ Only (fun k => NOwn p Z k ∨ k = ob) w w' := by
  obtain ⟨i0, hi, hz0, hz1, hz2⟩ := info_parts info92
  have hown : ∀ k, p.nown k ∨ (∃ i, Z i k) → k < w.heap.size := fun k hk => by
    rcases hk with (rfl | ⟨i, rfl⟩ | rfl) | ⟨i, hk⟩
    · exact H.hh.lt
    · exact (H.hc i).lt
    · exact H.hx.lt
    · exact (H.zo i k hk).2.2.2
  have hW := write_nat p s Z m w.heap.size (w.alloc (.cells mNew.toArray 138)) (H.kept ((Only.refl _ w).alloc _)) hm (IsBlock.new w mNew 138) (fun k hk => by
    have : k < w.heap.size := hown k (by
      rcases hk with h | h | h | h
      · exact .inl (.inl h)
      · exact .inl (.inr (.inl h))
      · exact .inl (.inr (.inr h))
      · exact .inr h)
    omega) hlab hnex
  rw [World.size_alloc] at hW
  have hs1 : (w.alloc (.cells mNew.toArray 138)).heap.size = w.heap.size + 1 := World.size_alloc _ _
  have ch1 := cell_past ch (.cells mNew.toArray 138)
  have HO1 : Hid (Only (fun _ => False) w (w.alloc (.cells mNew.toArray 138))) := Lib.hid ((Only.refl _ w).alloc _)
  have HO := Lib.hid (And.intro O (And.intro hob hown))
  have HM := Lib.hid hm
  clear H O hown hob hm hnex
  go_enter Tryz.func54, Tryz.ntmps54
  go_upto_region 7 with fail
  refine (?_ : ∀ w1, w1 = w.alloc (.cells mNew.toArray 138) → Code.wp _ _ _ _ w1) _ rfl
  intro w1 hw1
  rw [← hw1] at hW ch1 HO1 hs1
  have HS1 := Lib.hid hs1
  have HW := Lib.hid hW
  clear hw1 hW hs1
  have hm := method_write ⟨p.h, 0, none⟩ w1
  go_wp2_with fail
  refine HW.out.mono ?_
  rintro e w2 ⟨rfl, q, vns, vnd, vps, vpd, tn, tp, hd, l1, l2, l3, l4, hout, hon⟩
  have HOU := Lib.hid hout
  have HON := Lib.hid hon
  have HHO := Lib.hid (fun (wx : World) (ho : Only (fun _ => False) w2 wx) => histOf_rec q _ _ _ _ _ m _ _ _ _ _ tn tp wx (hd.mono ho (fun _ h => h.elim)) HM.out l1 l2 l3 l4)
  clear hd hout hon HW hm l1 l2 l3 l4
  go_wp2_with fail
  have ho2 : Only (fun k => NOwn p Z k ∨ k = w.heap.size) w w2 := (HO1.out.mono (fun _ _ h => h.elim)).trans (HON.out.mono (fun k _ e => e.elim .inr .inl))
  have hol := HO.out.1.lt
  have hbo : IsBlock w2 ob [.slice none 0 0] := ho2.isBlock HO.out.1 (fun hk => by
    rcases hk with h | h
    · refine HO.out.2.1 ob ?_ rfl
      rcases h with h | h | h
      · exact .inl (.inl h)
      · exact .inl (.inr (.inl h))
      · exact .inr h
    · omega)
  have m5 : w2.cell? ⟨w.heap.size, 5, none⟩ = some (.pointer (some ⟨q.g, 0, none⟩)) := HOU.out.cell rfl
  have o0 : w2.cell? ⟨ob, 0, none⟩ = some (.slice none 0 0) := hbo.cell rfl
  have HBO := Lib.hid hbo
  have HO2 := Lib.hid ho2
  have hno : ¬ ob = w.heap.size := by omega
  have hne : (⟨ob, 0, none⟩ : Addr) ≠ ⟨w.heap.size, 5, none⟩ := fun h => hno (congrArg Addr.block h)
  clear hbo ho2
  go_region_law
    (first
      | (go_simp; go_at_call 56
         refine (HHO.out _ ?_).mono ?_
         · with_reducible (repeat (first | exact Only.refl _ _ | apply Only.drew))
         rintro e w3 ⟨r, rfl, hr1, hr2, hr3⟩
         have ho3 : Only (fun _ => False) w2 w3 := only_pre hr3 (by with_reducible (repeat (first | exact Only.refl _ _ | apply Only.drew)))
         have HR := Lib.hid (And.intro hr1 (And.intro hr2 ho3))
         have m53 := (ho3.isBlock HOU.out id).cell (i := 5) rfl
         have o03 := (ho3.isBlock HBO.out id).cell (i := 0) rfl
         have fo3 := (ho3.isBlock HBO.out id).free 0
         have lt3 := (ho3.isBlock HBO.out id).lt
         clear hr1 hr2 hr3 ho3 HHO)
      | (refine step_append_lies _ (by rfl) _ _ _ (by rfl) w.heap.size 92 i0 _ 13 192 Tryz.underlying66 hi hz0 hz1 hz2 rfl (by omega) (.slice none 0 0) 0 [] (by rfl) (World.ownsRow_nil _ _ _ _) ⟨w3.heap.size, 0, none⟩ 1 1 r.cells (by rfl) (by rfl) (cells_of (by first | exact IsBlock.new w3 r.cells 92 | exact (IsBlock.new w3 r.cells 92).drew)) r.one (by omega) (by unfold maxLen; omega) (by omega) (by have h1 := HO2.out.size; have h2 := HR.out.2.2.size; simp; omega) (w3.heap.size + 1) (by simp) ?_
         intro g4 c4 w4 hown4 hgr4 hat4 hlt4
         have ho4 : Only (fun _ => False) w3 w4 := only_pre ((Only.grown hgr4).mono (fun _ _ e => by cases e)) (by with_reducible (repeat (first | exact Only.refl _ _ | apply Only.drew | apply Only.alloc)))
         have HG := Lib.hid (And.intro hown4 ho4)
         have hb4 := ho4.isBlock (HR.out.2.2.isBlock HBO.out id) id
         have o04 := hb4.cell (i := 0) rfl
         have fo4 := hb4.free 0
         clear hown4 hgr4 hat4 hlt4 ho4))
  all_goals
    have HF : Hid (∃ (g c : Nat) (r : NRec), IsBlock (w4.setCell ⟨ob, 0, none⟩ (.slice (some ⟨g4, 0, none⟩) 1 c4)) ob [.slice (some ⟨g, 0, none⟩) 1 c] ∧ (w4.setCell ⟨ob, 0, none⟩ (.slice (some ⟨g4, 0, none⟩) 1 c4)).ownsRow w.heap.size 92 13 (.slice (some ⟨g, 0, none⟩) 1 c) 1 r.cells ∧ NRIn (w4.setCell ⟨ob, 0, none⟩ (.slice (some ⟨g4, 0, none⟩) 1 c4)) w.heap.size r ∧ r.cnt = s.n ∧ Only (fun k => NOwn p Z k ∨ k = ob) w (w4.setCell ⟨ob, 0, none⟩ (.slice (some ⟨g4, 0, none⟩) 1 c4))) := Lib.hid (by
      have hz2 := HO2.out.size
      have hos : Only (fun k => k = ob) w4 (w4.setCell ⟨ob, 0, none⟩ (.slice (some ⟨g4, 0, none⟩) 1 c4)) := (Only.refl (fun k => k = ob) w4).setCell (p := ⟨ob, 0, none⟩) (.inl rfl) _
      refine ⟨g4, c4, r, hb4.set 0 _, ownsRow_setCell_below HG.out.1 (a := ⟨ob, 0, none⟩) hol _, ((HR.out.2.1.lower (base' := w.heap.size) (by first | (show w.heap.size ≤ w2.heap.size + 2; omega) | omega)).kept HG.out.2 (fun _ h => h.elim)).kept hos (fun k hk => by omega), HR.out.1, ?_⟩
      exact (((HO2.out.mono (fun k hk e => e.elim .inl (fun e => by omega))).trans (HR.out.2.2.mono (fun _ _ e => e.elim))).trans (HG.out.2.mono (fun _ _ e => e.elim))).trans (hos.mono (fun _ _ e => .inr e)))
    clear hb4 o04 fo4 m53 o03 fo3 lt3
    go_wp2_with fail
    go_end0
    exact ⟨rfl, HF.out⟩
end Go.Proofs.YtebjclmbacmilaaGreatDoor

namespace Go.Proofs.YtebjclmbacmilaaGreatDoor
open Go.RowKit

set_option maxRecDepth 100000 in
set_option maxHeartbeats 1600000 in
theorem step_obs_nat (x hb ob : Nat) (p : Pl) (s : HSt) (Z : Bool → Nat → Prop) (m v : Nat) (w : World) (H : NHIn w p s Z m) (hm : m + 1 < 2147483648) (hv2 : v < 18446744073709551616)
    (c0 : w.cell? ⟨x, 0, none⟩ = some (.int .i64 0)) (c1 : w.cell? ⟨x, 1, none⟩ = some (.float .f64 v)) (ch : w.cell? ⟨hb, 0, none⟩ = some (.iface 227 (.pointer (some ⟨p.h, 0, none⟩)))) :
    Calls Tryz.prog 54 #[.pointer (some ⟨x, 0, none⟩), .pointer (some ⟨hb, 0, none⟩), .pointer (some ⟨ob, 0, none⟩)] w fun e w' => e = .returned (.tuple #[]) ∧ NPost p s Z m w w' := by
  have HC := Lib.hid (nobserveV p s Z m v w H hm hv2)
  clear H
  have hm := method_observe ⟨p.h, 0, none⟩ w
  go_enter Tryz.func54, Tryz.ntmps54
  go_wp2_with fail
  refine HC.out.mono ?_
  rintro e w' ⟨rfl, hq⟩
  have HQ := Lib.hid hq
  clear hq HC
  go_wp2_with fail
  go_end0
  exact ⟨rfl, HQ.out⟩
theorem NHIn.low {w : World} {p : Pl} {s : HSt} {Z : Bool → Nat → Prop} {m : Nat} (H : NHIn w p s Z m) : ∀ k, p.nown k ∨ (∃ i, Z i k) → k < w.heap.size := fun k hk => by
  rcases hk with (rfl | ⟨i, rfl⟩ | rfl) | ⟨i, hk⟩
  · exact H.hh.lt
  · exact (H.hc i).lt
  · exact H.hx.lt
  · exact (H.zo i k hk).2.2.2
theorem nown_of {p : Pl} {Z : Bool → Nat → Prop} {k : Nat} (h : NOwn p Z k) : p.nown k ∨ (∃ i, Z i k) := by
  rcases h with h | h | h
  · exact .inl (.inl h)
  · exact .inl (.inr (.inl h))
  · exact .inr h

set_option maxRecDepth 100000 in
/-- An observation. -/
theorem tryObs_nat (X hb ob : Nat) (p : Pl) (s : HSt) (Z : Bool → Nat → Prop) (m : Nat) (x : SD) (W : World) (H : NHIn W p s Z m) (hm : m + 1 < 2147483648) (hx : IsBlock W X (sCl x)) (hv : IsBlock W hb [.iface 227 (.pointer (some ⟨p.h, 0, none⟩))]) (hk : x.kind = 0) (hv2 : x.value < 18446744073709551616) :
    Calls Tryz.prog 53 #[.func (.func 54) #[] #[.pointer (some ⟨X, 0, none⟩), .pointer (some ⟨hb, 0, none⟩), .pointer (some ⟨ob, 0, none⟩)]] W fun e w' => e = .returned (.bool true) ∧ NPost p s Z m W w' := by
  have hsz : (W.alloc (.cells #[.bool false] 4)).heap.size = W.heap.size + 1 := World.size_alloc _ _
  have hal : Only (fun _ => False) W (W.alloc (.cells #[.bool false] 4)) := (Only.refl _ W).alloc _
  have hlow := H.low
  have hno : ¬ NOwn p Z W.heap.size := fun h => by have := hlow _ (nown_of h); omega
  refine (doorTry_ok 54 _ W (fun w1 => NPost p s Z m (W.alloc (.cells #[.bool false] 4)) w1) (fun _ => rfl) ?_).mono ?_
  · have c0 := (hx.alloc (.cells #[.bool false] 4)).cell (i := 0) (v := .int .i64 x.kind) rfl
    rw [hk] at c0
    refine (step_obs_nat X hb ob p s Z m x.value _ (H.kept hal) hm hv2 c0 ((hx.alloc _).cell rfl) ((hv.alloc _).cell rfl)).mono ?_
    rintro e w1 ⟨rfl, hp⟩
    obtain ⟨s', Z', h1, h2, h3, h4⟩ := hp
    exact ⟨rfl, h3.isBlock (IsBlock.new W [.bool false] 4) hno, s', Z', h1, h2, h3, h4⟩
  · rintro e w2 ⟨rfl, w1, ⟨s', Z', h1, h2, h3, h4⟩, hw2⟩
    have o2 : Only (fun k => k = W.heap.size) w1 w2 := by rw [hw2]; exact (Only.refl (fun k => k = W.heap.size) w1).setCell (p := ⟨W.heap.size, 0, none⟩) (.inl rfl) _
    refine ⟨rfl, s', Z', h1.mono o2 (fun k hk e => ?_), h2, Only.widen ((hal.mono (fun _ _ e => e.elim)).trans h3) o2 (fun j hj => by omega), fun i k hk => (h4 i k hk).imp id (fun h => by omega)⟩
    subst e
    rcases hk with hk | ⟨i, hk⟩
    · have := hlow _ (.inl hk); omega
    · rcases h4 i _ hk with h | h
      · have := hlow _ (.inr ⟨i, h⟩); omega
      · omega

set_option maxRecDepth 100000 in
/-- The writing. -/
theorem tryWrite_nat (X hb ob : Nat) (p : Pl) (s : HSt) (Z : Bool → Nat → Prop) (m : Nat) (x : SD) (W : World) (H : NHIn W p s Z m) (hm : m ≤ 268435456) (hlab : p.labels = .slice none 0 0) (hnex : ∃ a c, s.nex = .slice (some a) 0 c) (hx : IsBlock W X (sCl x)) (hv : IsBlock W hb [.iface 227 (.pointer (some ⟨p.h, 0, none⟩))]) (hk : x.kind = 2)
    (O : IsBlock W ob [.slice none 0 0]) (hob : ∀ k, p.nown k ∨ (∃ i, Z i k) → k ≠ ob) :
    Calls Tryz.prog 53 #[.func (.func 54) #[] #[.pointer (some ⟨X, 0, none⟩), .pointer (some ⟨hb, 0, none⟩), .pointer (some ⟨ob, 0, none⟩)]] W fun e w' => e = .returned (.bool true) ∧
      ∃ (g c : Nat) (r : NRec), IsBlock w' ob [.slice (some ⟨g, 0, none⟩) 1 c] ∧ w'.ownsRow (W.heap.size + 1) 92 13 (.slice (some ⟨g, 0, none⟩) 1 c) 1 r.cells ∧ NRIn w' (W.heap.size + 1) r ∧ r.cnt = s.n ∧ Only (fun k => NOwn p Z k ∨ k = ob) W w' := by
  have hsz : (W.alloc (.cells #[.bool false] 4)).heap.size = W.heap.size + 1 := World.size_alloc _ _
  have hal : Only (fun _ => False) W (W.alloc (.cells #[.bool false] 4)) := (Only.refl _ W).alloc _
  have hlow := H.low
  have hol := O.lt
  have hno : ¬ (NOwn p Z W.heap.size ∨ W.heap.size = ob) := fun h => by
    rcases h with h | h
    · have := hlow _ (nown_of h); omega
    · omega
  refine (doorTry_ok 54 _ W (fun w1 => ∃ (g c : Nat) (r : NRec), IsBlock w1 ob [.slice (some ⟨g, 0, none⟩) 1 c] ∧ w1.ownsRow (W.heap.size + 1) 92 13 (.slice (some ⟨g, 0, none⟩) 1 c) 1 r.cells ∧ NRIn w1 (W.heap.size + 1) r ∧ r.cnt = s.n ∧ Only (fun k => NOwn p Z k ∨ k = ob) (W.alloc (.cells #[.bool false] 4)) w1) (fun _ => rfl) ?_).mono ?_
  · have c0 := (hx.alloc (.cells #[.bool false] 4)).cell (i := 0) (v := .int .i64 x.kind) rfl
    rw [hk] at c0
    refine (step_write_nat X hb ob p s Z m _ (H.kept hal) hm hlab hnex c0 ((hv.alloc _).cell rfl) (O.alloc _) hob).mono ?_
    rintro e w1 ⟨rfl, g, c, r, h1, h2, h3, h4, h5⟩
    rw [hsz] at h2 h3
    exact ⟨rfl, h5.isBlock (IsBlock.new W [.bool false] 4) hno, g, c, r, h1, h2, h3, h4, h5⟩
  · rintro e w2 ⟨rfl, w1, ⟨g, c, r, h1, h2, h3, h4, h5⟩, hw2⟩
    have o2 : Only (fun k => k = W.heap.size) w1 w2 := by rw [hw2]; exact (Only.refl (fun k => k = W.heap.size) w1).setCell (p := ⟨W.heap.size, 0, none⟩) (.inl rfl) _
    refine ⟨rfl, g, c, r, o2.isBlock h1 (by omega), o2.ownsRow h2 (fun k hk e => by have := (h2.lt k hk).1; omega), h3.kept o2 (fun k hk => by omega), h4, Only.widen ((hal.mono (fun _ _ e => e.elim)).trans h5) o2 (fun j hj => by omega)⟩
end Go.Proofs.YtebjclmbacmilaaGreatDoor

namespace Go.Proofs.YtebjclmbacmilaaGreatDoor
open Go.RowKit

/-- Where a new native histogram lies behind HistRun's door. -/
structure HrNewN (w : World) (ck : Nat) (t0 : Int) (hb : Nat) (p : Pl) (xb : Nat) (wx : World) : Prop where
  hv : IsBlock wx hb [.iface 227 (.pointer (some ⟨p.h, 0, none⟩))]
  hin : NHIn wx p (newN t0 xb) (fun _ _ => False) 0
  own : ∀ k, p.nown k → ck < k ∧ k ≠ hb
  lab : p.labels = .slice none 0 0
  clk : IsBlock wx ck [.int .i64 t0, .slice none 0 0]
  only : Only (fun _ => False) w wx
  hbl : ck < hb
  ckl : w.heap.size < ck
/-- Between two rounds of the loop over the steps. -/
structure RRelN (w : World) (n : Nat) (p : Pl) (ck hb ob base : Nat) (k : Nat) (vt : Value) (wr : World) : Prop where
  clk : ∃ c, IsBlock wr ck [.int .i64 c, .slice none 0 0]
  hv : IsBlock wr hb [.iface 227 (.pointer (some ⟨p.h, 0, none⟩))]
  st : (k ≤ n ∧ ∃ (s : HSt) (Z : Bool → Nat → Prop), NHIn wr p s Z k ∧ (∃ a c, s.nex = .slice (some a) 0 c) ∧ IsBlock wr ob [.slice none 0 0] ∧ ∀ i j, Z i j → base ≤ j ∧ vt.ownBlock ≠ some j) ∨
    (k = n + 1 ∧ ∃ (g c : Nat) (r : NRec), IsBlock wr ob [.slice (some ⟨g, 0, none⟩) 1 c] ∧ wr.ownsRow base 92 13 (.slice (some ⟨g, 0, none⟩) 1 c) 1 r.cells ∧ NRIn wr base r)
  told : wr.ownsRow base 4 1 vt k (List.replicate k (.bool true))
  only : Only (fun _ => False) w wr
  size : base ≤ wr.heap.size

theorem hrNewN_of {w w3 w4 w5 : World} {ck hb xb B : Nat} {t0 : Int} {p : Pl} (hv : IsBlock w5 hb [.iface 227 (.pointer (some ⟨p.h, 0, none⟩))]) (hin : NHIn w4 p (newN t0 xb) (fun _ _ => False) 0) (h45 : Only (fun k => k = hb) w4 w5)
    (h03 : Only (fun _ => False) w w3) (h34 : Only (fun _ => False) w3 w4) (hck : IsBlock w3 ck [.int .i64 t0, .slice none 0 0]) (hB : ∀ k, p.nown k → B ≤ k) (hhb : hb < B ∨ w4.heap.size ≤ hb) (hlab : p.labels = .slice none 0 0)
    (h1 : w.heap.size < ck) (h2 : ck < hb) (h3 : ck < B) : HrNewN w ck t0 hb p xb w5 where
  hv := hv
  hin := hin.mono h45 (fun k hk e => by
    rcases hk with hk | ⟨_, hk⟩
    · have := hB k hk; have := hin.low k (.inl hk); omega
    · exact hk)
  own := fun k hk => by have := hB k hk; have := hin.low k (.inl hk); omega
  lab := hlab
  clk := h45.isBlock (h34.isBlock hck id) (by omega)
  only := Only.widen (h03.trans h34) h45 (fun j e => by omega)
  hbl := h2
  ckl := h1

set_option maxRecDepth 100000 in
set_option maxHeartbeats 1600000 in
theorem histRun_nat (ba : Option Addr) (bc : Nat) (t0 : Int) (la : Option Addr) (lc : Nat) (steps : List SD) (bst : Nat) (gs : Addr) (gc n : Nat) (w : World)
    (hg : w.cell? ⟨2, 0, none⟩ = some (.slice (some gs) 1 gc)) (hgs : w.cell? gs = some (.int .u8 255)) (hb : SrcIs w (.slice ba 0 bc) 1 0 [])
    (hst : w.ownsRow bst 86 4 (.slice la steps.length lc) steps.length (sRow steps)) (hsl : steps.length ≤ 4194304) (hn : steps.length = n + 1) (hobs : ∀ i (h : i < steps.length), i < n → (steps[i]).kind = 0 ∧ (steps[i]).value < 18446744073709551616) (hlast : ∀ (h : n < steps.length), (steps[n]).kind = 2) :
    Calls Tryz.prog 28 #[.agg #[.slice ba 0 bc, .float .f64 4611686018427387904, .float .f64 0, .int .u32 0, .int .i64 0, .float .f64 0, .int .i64 0, .int .i64 0], .int .i64 t0, .slice la steps.length lc] w fun e w' => ∃ (g c : Nat) (r : NRec) (vt : Value), e = .returned (.tuple #[.slice (some ⟨g, 0, none⟩) 1 c, vt, .bool true]) ∧ w'.ownsRow w.heap.size 92 13 (.slice (some ⟨g, 0, none⟩) 1 c) 1 r.cells ∧ NRIn w' w.heap.size r ∧
      w'.ownsRow w.heap.size 4 1 vt steps.length (List.replicate steps.length (.bool true)) ∧ Only (fun _ => False) w w' := by
  obtain ⟨i0, hi, hz0, hz1, hz2⟩ := info_parts info25
  obtain ⟨i4, hi4, hz40, hz41, hz42⟩ := info_parts info4
  have hmf : ∀ (fn : Fn) (first cap : Array Value) (w : World), (Instr.makeFunc fn first cap).run Tryz.prog w = .ok (.func fn first cap) w := fun _ _ _ _ => rfl
  have hS2 : IsBlock ((w.alloc (.cells (sVals (.slice ba 0 bc) 4611686018427387904 0 0 0 0 0 0).toArray 69)).alloc (.cells #[.int .i64 t0, .slice none 0 0] 162)) w.heap.size (sVals (.slice ba 0 bc) 4611686018427387904 0 0 0 0 0 0) := (IsBlock.new w _ 69).alloc _
  have hC2 : IsBlock ((w.alloc (.cells (sVals (.slice ba 0 bc) 4611686018427387904 0 0 0 0 0 0).toArray 69)).alloc (.cells #[.int .i64 t0, .slice none 0 0] 162)) (w.heap.size + 1) [.int .i64 t0, .slice none 0 0] := blk_new _ _ _ _ (World.size_alloc _ _).symm
  have hO2 : Only (fun _ => False) w ((w.alloc (.cells (sVals (.slice ba 0 bc) 4611686018427387904 0 0 0 0 0 0).toArray 69)).alloc (.cells #[.int .i64 t0, .slice none 0 0] 162)) := ((Only.refl _ w).alloc _).alloc _
  have hZ2 : ((w.alloc (.cells (sVals (.slice ba 0 bc) 4611686018427387904 0 0 0 0 0 0).toArray 69)).alloc (.cells #[.int .i64 t0, .slice none 0 0] 162)).heap.size = w.heap.size + 2 := by simp
  have hB2 : SrcIs ((w.alloc (.cells (sVals (.slice ba 0 bc) 4611686018427387904 0 0 0 0 0 0).toArray 69)).alloc (.cells #[.int .i64 t0, .slice none 0 0] 162)) (.slice ba 0 bc) 1 0 [] := hb.mono (fun a v h => cell_past (cell_past h _) _)
  have HST := Lib.hid hst
  have HSL := Lib.hid hsl
  have HG := Lib.hid hg
  have HGS := Lib.hid hgs
  have HOBS := Lib.hid hobs
  have HLAST := Lib.hid hlast
  have HNE := Lib.hid hn
  clear hg hgs hst hsl hobs hlast hn hb
  go_enter Tryz.func28, Tryz.ntmps28
  go_upto_region 2 with (go_at_call 50; refine (newClock_any _ _).mono ?_; rintro e w' ⟨rfl, rfl⟩)
  refine (?_ : ∀ w2, w2 = (w.alloc (.cells (sVals (.slice ba 0 bc) 4611686018427387904 0 0 0 0 0 0).toArray 69)).alloc (.cells #[.int .i64 t0, .slice none 0 0] 162) → Code.wp _ _ _ _ w2) _ rfl
  intro w2 hw2
  rw [← hw2] at hS2 hC2 hO2 hZ2 hB2
  have HC2 := Lib.hid hC2
  have HO2 := Lib.hid hO2
  have HZ2 := Lib.hid hZ2
  have HB2 := Lib.hid hB2
  clear hw2 hC2 hO2 hZ2 hB2
  have hc8 := cells8 hS2
  have hz2lt : w.heap.size < w2.heap.size := by have := HZ2.out; omega
  have HDN := Lib.hid (fun (wx : World) (ho : Only (fun _ => False) w2 wx) => doorHistogram_nat (w.heap.size + 1) t0 gs gc wx (ho.cell (HC2.out.cell rfl) id) (ho.cell (HO2.out.cell HG.out id) id) (ho.cell (HO2.out.cell HGS.out id) id))
  go_cut [10] from 17 to 36 (fun v10 wx => ∃ (p : Pl) (xb hb : Nat), v10 = .pointer (some ⟨hb, 0, none⟩) ∧ HrNewN w (w.heap.size + 1) t0 hb p xb wx)
  case first =>
    go_region_held3 (fun wx => wx.cell? ⟨w.heap.size, 0, none⟩ = some (.slice ba 0 bc) ∧ wx.cell? ⟨w.heap.size, 1, none⟩ = some (.float .f64 4611686018427387904) ∧ wx.cell? ⟨w.heap.size, 2, none⟩ = some (.float .f64 0) ∧ wx.cell? ⟨w.heap.size, 3, none⟩ = some (.int .u32 0) ∧ wx.cell? ⟨w.heap.size, 4, none⟩ = some (.int .i64 0) ∧ wx.cell? ⟨w.heap.size, 5, none⟩ = some (.float .f64 0) ∧ wx.cell? ⟨w.heap.size, 6, none⟩ = some (.int .i64 0) ∧ wx.cell? ⟨w.heap.size, 7, none⟩ = some (.int .i64 0))
      ((refine cells8 ?_; repeat (first | assumption | apply IsBlock.drew | apply IsBlock.alloc | (refine IsBlock.set_ne ?_ (Nat.ne_of_lt (by assumption)) _))))
      (first
        | (refine step_append_src _ (by rfl) _ _ _ (by rfl) _ 25 i0 _ 1 8 Tryz.underlying22 hi hz0 hz1 hz2 rfl (by omega) (.slice none 0 0) 0 [] (by rfl) (World.ownsRow_nil _ _ _ _) (.slice ba 0 bc) 0 [] (by rfl) (SrcIs.mono HB2.out (fun _ _ h => (by first | exact h | exact cell_past h _))) (fun _ h => by cases h) (by unfold maxLen; omega) (by omega) (Nat.le_refl _) ?_
           intro v3 w3 hown3 hgr3 hnil3
           obtain rfl := hnil3 rfl rfl
           have hO23 := only_grown (a := w2) (by repeat (first | exact Only.refl _ _ | apply Only.drew | apply Only.alloc)) hgr3
           have hS3 := hO23.isBlock hS2 id
           have hC3 := hO23.isBlock HC2.out id
           have hO3 := HO2.out.trans hO23
           have HGR3 := Lib.hid hgr3.size
           have hz3lt : w.heap.size < w3.heap.size := by have := hO23.size; omega
           try have hh3 : IsBlock w3 w2.heap.size [.nilIface] := IsBlock.grown (IsBlock.new w2 [.nilIface] 114).drew hgr3 (fun e => (by cases e))
           clear hown3 hgr3 hnil3)
        | (go_at_call 51
           refine (HDN.out _ ?_).mono ?_
           · with_reducible (repeat (first | assumption | exact Only.refl _ _ | apply Only.drew | apply Only.alloc))
           rintro e w4 ⟨p, xb, rfl, hin4, hown4, ⟨hnow4, hlab4⟩, hbel4⟩
           have hO34 : Only (fun _ => False) w3 w4 := only_pre (only_of_below hbel4) (by with_reducible (repeat (first | exact Only.refl _ _ | apply Only.drew | apply Only.alloc)))
           have hS4 := hO34.isBlock hS3 id
           try have hh4 := hO34.isBlock hh3 id
           try have hh4 : IsBlock w4 w3.heap.size [.nilIface] := (only_of_below hbel4).isBlock (by first | exact (IsBlock.new w3 [.nilIface] 114).drew | exact IsBlock.new w3 [.nilIface] 114) id
           try have hc4 := hh4.cell (i := 0) rfl
           try have hf4 := hh4.free 0
           have HIN4 := Lib.hid hin4
           have HOW4 := Lib.hid hown4
           have HLAB := Lib.hid hlab4
           clear hin4 hown4 hnow4 hlab4 hbel4 HDN))
    · go_wp2_with fail
      go_meet
      exact ⟨p, xb, w4.heap.size, rfl, hrNewN_of (w3 := w3) (w4 := w4) (B := w3.heap.size) (blk_new _ _ _ _ rfl) HIN4.out ((Only.refl _ w4).alloc _) hO3 hO34 hC3 HOW4.out (.inr (Nat.le_refl _)) HLAB.out (by omega) (by have := hC3.lt; have := hO34.size; omega) hC3.lt⟩
    · go_wp2_with fail
      go_meet
      exact ⟨p, xb, w3.heap.size, rfl, hrNewN_of (w3 := w3) (w4 := w4) (B := w3.heap.size + 1) (hh4.set 0 _) HIN4.out ((Only.refl (fun k => k = w3.heap.size) w4).setCell (p := ⟨w3.heap.size, 0, none⟩) (.inl rfl) _) hO3 hO34 hC3 (fun k hk => by have h := HOW4.out k hk; rwa [World.size_alloc] at h) (.inl (Nat.lt_succ_self _)) HLAB.out (by omega) hC3.lt (Nat.lt_succ_of_lt hC3.lt)⟩
    · go_wp2_with fail
      go_meet
      have hsz : (w2.alloc (Obj.cells #[Value.nilIface] 114)).drew.heap.size = w2.heap.size + 1 := World.size_alloc _ _
      exact ⟨p, xb, w2.heap.size, rfl, hrNewN_of (w3 := w3) (w4 := w4) (B := w3.heap.size) (hh4.set 0 _) HIN4.out ((Only.refl (fun k => k = w2.heap.size) w4).setCell (p := ⟨w2.heap.size, 0, none⟩) (.inl rfl) _) hO3 hO34 hC3 HOW4.out (.inl (by have := HGR3.out; rw [hsz] at this; omega)) HLAB.out (by omega) (by have := HZ2.out; omega) hC3.lt⟩
  obtain ⟨p, xb, hb, rfl, hN⟩ := hcut
  have HN := Lib.hid hN
  clear hN hc8 hS2 hz2lt HC2 HO2 HZ2 HB2 HG HGS HDN hi hz0 hz1 hz2
  have cv := HN.out.hv.cell (i := 0) rfl
  have HLT := Lib.hid (fun k hk => HN.out.hin.low k (.inl hk))
  have HR0 : Hid (RRelN w n p (w.heap.size + 1) hb wc.heap.size (wc.heap.size + 1) 0 (.slice none 0 0) (wc.alloc (.cells #[.slice none 0 0] 66))) := Lib.hid {
    clk := ⟨t0, HN.out.clk.alloc _⟩
    hv := HN.out.hv.alloc _
    st := .inl ⟨Nat.zero_le _, newN t0 xb, fun _ _ => False, HN.out.hin.kept ((Only.refl _ wc).alloc _), ⟨_, _, rfl⟩, IsBlock.new wc [.slice none 0 0] 66, fun _ _ h => h.elim⟩
    told := World.ownsRow_nil _ _ _ _
    only := HN.out.only.alloc _
    size := by rw [World.size_alloc]; omega }
  have hsl' : (steps.length : Int) ≤ 4194304 := by have := HSL.out; omega
  go_wp2_with fail
  go_loopw [12, 41] (fun vt i wr => ∃ (k : Nat), k ≤ steps.length ∧ i = .int .i64 k ∧ RRelN w n p (w.heap.size + 1) hb wc.heap.size (wc.heap.size + 1) k vt wr) (fun _ i _ => steps.length - (intOf i).toNat)
  case atStart => exact ⟨0, Nat.zero_le _, rfl, HR0.out⟩
  case round =>
    obtain ⟨k, hk, rfl, hR⟩ := hrel
    have HR := Lib.hid hR
    clear hR
    by_cases hkn : k < steps.length
    · have hk0 : (0 : Int) ≤ (k : Int) := by omega
      have hk1 : (k : Int) < (steps.length : Int) := by omega
      have hla : ∃ g, la = some ⟨g, 0, none⟩ := by
        rcases HST.out.2 with ⟨_, h0⟩ | ⟨g, cap, cur, hv, _⟩
        · omega
        · simp only [Value.slice.injEq] at hv; exact ⟨g, hv.1⟩
      obtain ⟨g, rfl⟩ := hla
      have hcells : ∀ j, j < 4 → wr.cell? ⟨g, k * 4 + j, none⟩ = (sCl steps[k])[j]? := fun j hj => by
        have hv := sRow_get steps k j hkn hj
        have hl : j < (sCl steps[k]).length := hj
        rw [List.getElem?_eq_getElem hl] at hv ⊢
        have hc := HST.out.cells (g := g) rfl _ _ hv
        have e : (⟨g, 0, none⟩ : Addr).add (4 * k + j) = ⟨g, k * 4 + j, none⟩ := by
          rw [show 4 * k + j = k * 4 + j by omega]
          unfold Addr.add; split <;> simp_all
        rw [e] at hc
        exact HR.out.only.cell hc id
      obtain ⟨x, hx⟩ : ∃ x, x = steps[k] := ⟨_, rfl⟩
      rw [← hx] at hcells
      have k0 : wr.cell? ⟨g, k * 4, none⟩ = some (.int .i64 x.kind) := hcells 0 (by omega)
      have k1 : wr.cell? ⟨g, k * 4 + 1, none⟩ = some (.float .f64 x.value) := hcells 1 (by omega)
      have k2 : wr.cell? ⟨g, k * 4 + 2, none⟩ = some (.slice x.la x.ln x.lc) := hcells 2 (by omega)
      have k3 : wr.cell? ⟨g, k * 4 + 3, none⟩ = some (.int .i64 x.at_) := hcells 3 (by omega)
      have HX := Lib.hid hx
      clear hcells hx
      go_wp2_with fail
      refine (?_ : ∀ w5, w5 = wr.alloc (.cells (sCl x).toArray 86) → Calls Tryz.prog 52 _ w5 _) _ rfl
      intro w5 hw5
      have HX5 : Hid (IsBlock w5 wr.heap.size (sCl x)) := Lib.hid (by rw [hw5]; exact IsBlock.new wr (sCl x) 86)
      have HO5 : Hid (Only (fun _ => False) wr w5) := Lib.hid (by rw [hw5]; exact (Only.refl _ wr).alloc _)
      have HZ5 : Hid (w5.heap.size = wr.heap.size + 1) := Lib.hid (by rw [hw5]; exact World.size_alloc _ _)
      obtain ⟨c, hclk⟩ := HR.out.clk
      have hclk5 := HO5.out.isBlock hclk id
      clear hw5 k0 k1 k2 k3
      refine (clockTo_plain (w.heap.size + 1) c x.at_ w5 hclk5).mono ?_
      rintro e w6 ⟨rfl, hw6⟩
      have HO56 : Hid (Only (fun j => j = w.heap.size + 1) w5 w6) := Lib.hid (by rw [hw6]; exact (Only.refl (fun j => j = w.heap.size + 1) w5).setCell (p := ⟨w.heap.size + 1, 0, none⟩) (.inl rfl) _)
      have HK6 : Hid (IsBlock w6 (w.heap.size + 1) [.int .i64 (max c x.at_), .slice none 0 0]) := Lib.hid (by rw [hw6]; exact hclk5.set 0 _)
      clear hw6 hclk5 hclk
      have hckw : w.heap.size + 1 < wc.heap.size := HN.out.clk.lt
      have hbw : hb < wc.heap.size := HN.out.hv.lt
      have hrs := HR.out.size
      have hck : ∀ j, p.nown j → w.heap.size + 1 ≠ j := fun j hj e => by have := (HN.out.own j hj).1; omega
      have HX6 := HO56.out.isBlock HX5.out (fun e => by omega)
      have HV6 := HO56.out.isBlock (HO5.out.isBlock HR.out.hv id) (fun e => by have := HN.out.hbl; omega)
      have HT6 : Hid (w6.ownsRow (wc.heap.size + 1) 4 1 u12 k (List.replicate k (.bool true))) := Lib.hid (HO56.out.ownsRow (HO5.out.ownsRow HR.out.told (fun _ _ => id)) (fun j hj e => by have := (HR.out.told.lt j hj).1; omega))
      have hz6 : wc.heap.size + 1 ≤ w6.heap.size := by have := HO56.out.size; have := HZ5.out; omega
      have hsl2 := HSL.out
      have HTS : Hid (Calls Tryz.prog 53 #[.func (.func 54) #[] #[.pointer (some ⟨wr.heap.size, 0, none⟩), .pointer (some ⟨hb, 0, none⟩), .pointer (some ⟨wc.heap.size, 0, none⟩)]] w6 fun e w7 => e = .returned (.bool true) ∧ w7.ownsRow (wc.heap.size + 1) 4 1 u12 k (List.replicate k (.bool true)) ∧ Only (fun j => p.nown j ∨ j = wc.heap.size ∨ wc.heap.size + 1 ≤ j) w6 w7 ∧
          ((k < n ∧ ∃ (s : HSt) (Z : Bool → Nat → Prop), NHIn w7 p s Z (k + 1) ∧ (∃ a c, s.nex = .slice (some a) 0 c) ∧ IsBlock w7 wc.heap.size [.slice none 0 0] ∧ ∀ i j, Z i j → wc.heap.size + 1 ≤ j ∧ u12.ownBlock ≠ some j) ∨
           (k = n ∧ ∃ (g c : Nat) (r : NRec), IsBlock w7 wc.heap.size [.slice (some ⟨g, 0, none⟩) 1 c] ∧ w7.ownsRow (wc.heap.size + 1) 92 13 (.slice (some ⟨g, 0, none⟩) 1 c) 1 r.cells ∧ NRIn w7 (wc.heap.size + 1) r))) := Lib.hid (by
        have hn := HNE.out
        have hst := HR.out.st
        rcases hst with ⟨hkn', s, Z, i1, i2, i3, i4⟩ | ⟨hk', _⟩
        · have j1 : NHIn w6 p s Z k := (i1.kept HO5.out).mono HO56.out (fun j hj e => by
            rcases hj with hj | ⟨i, hj⟩
            · exact hck j hj e.symm
            · have := (i4 i j hj).1; omega)
          have j3 : IsBlock w6 wc.heap.size [.slice none 0 0] := HO56.out.isBlock (HO5.out.isBlock i3 id) (fun e => by omega)
          have hnl : ∀ j, p.nown j → j < wc.heap.size := HLT.out
          have hzt : ∀ j, NOwn p Z j → p.nown j ∨ j = wc.heap.size ∨ wc.heap.size + 1 ≤ j := fun j hj => by
            rcases nown_of hj with h | ⟨i, h⟩
            · exact .inl h
            · exact .inr (.inr (i4 i j h).1)
          have htn : ∀ j, u12.ownBlock = some j → ¬ NOwn p Z j := fun j hj h => by
            rcases nown_of h with h | ⟨i, h⟩
            · have := hnl j h; have := (HT6.out.lt j hj).1; omega
            · exact (i4 i j h).2 hj
          rcases Nat.lt_or_ge k n with hlt | hge
          · have hob := HOBS.out k (by omega) hlt
            rw [← HX.out] at hob
            refine (tryObs_nat wr.heap.size hb wc.heap.size p s Z k x w6 j1 (by omega) HX6 HV6 hob.1 hob.2).mono ?_
            rintro e w7 ⟨rfl, s', Z', n1, n2, n3, n4⟩
            refine ⟨rfl, n3.ownsRow HT6.out htn, n3.mono (fun j _ hj => hzt j hj), .inl ⟨hlt, s', Z', n1, by rw [n2.nex]; exact i2, n3.isBlock j3 (fun h => ?_), fun i j hj => ?_⟩⟩
            · rcases nown_of h with h | ⟨i, h⟩
              · have := hnl _ h; omega
              · have := (i4 i _ h).1; omega
            · rcases n4 i j hj with h | h
              · exact i4 i j h
              · exact ⟨by omega, fun e => by have := (HT6.out.lt j e).2; omega⟩
          · have hke : k = n := by omega
            have hla := HLAST.out (by omega)
            have hx2 : x.kind = 2 := by rw [HX.out]; simpa [hke] using hla
            refine (tryWrite_nat wr.heap.size hb wc.heap.size p s Z k x w6 j1 (by omega) HN.out.lab i2 HX6 HV6 hx2 j3 (fun j hj e => by
              rcases hj with hj | ⟨i, hj⟩
              · have := hnl j hj; omega
              · have := (i4 i j hj).1; omega)).mono ?_
            rintro e w7 ⟨rfl, g, c, r, n1, n2, n3, n4, n5⟩
            refine ⟨rfl, n5.ownsRow HT6.out (fun j hj h => ?_), n5.mono (fun j _ hj => hj.elim (hzt j) (fun e => .inr (.inl e))), .inr ⟨hke, g, c, r, n1, ownsRow_lower n2 (by omega), n3.lower (by omega)⟩⟩
            rcases h with h | h
            · exact htn j hj h
            · have := (HT6.out.lt j hj).1; omega
        · omega)
      clear HX6 HV6 hz6 hck
      go_wp2_with fail
      refine HTS.out.mono ?_
      rintro e w7 ⟨rfl, HT7, q5, q6⟩
      have Q5 := Lib.hid q5
      have Q6 := Lib.hid q6
      clear q5 q6 HTS
      obtain ⟨ta, tc, ht⟩ := ownsRow_slice HT7
      rw [ht] at HT7
      have HT := Lib.hid ht
      rw [ht]
      clear ht
      go_wp2_with (at_builtin; go_must (refine wpList_append_own_at _ rfl _ _ 55 rfl (wc.heap.size + 1) 4 i4 (.bool false) 1 1 Tryz.underlying55 hi4 hz40 hz41 hz42 rfl (by decide) _ _ _ rfl (HT7.alloc _) ⟨w7.heap.size, 0, none⟩ 1 1 [.bool true] rfl rfl (cells_of (IsBlock.new w7 [.bool true] 4)) (one_one _ rfl) ?c3 ?c4 ?c5 ?_))
      case c3 => unfold maxLen; omega
      case c4 => omega
      case c5 => have := Q5.out.size; have h6 : wc.heap.size + 1 ≤ w6.heap.size := by (have := HO56.out.size; have := HZ5.out; omega)
                 rw [World.size_alloc]; omega
      intro v8 w8 hown8 hgr8 _ hat8
      have HNX : Hid (RRelN w n p (w.heap.size + 1) hb wc.heap.size (wc.heap.size + 1) (k + 1) v8 w8) := Lib.hid (by
        have hrow : ∀ j, (Value.slice ta k tc).ownBlock = some j → wc.heap.size + 1 ≤ j := fun j hj => (HT7.lt j hj).1
        have hon : Only (fun j => (Value.slice ta k tc).ownBlock = some j) w7 w8 := ((Only.refl _ w7).alloc _).trans (Only.grown hgr8)
        have h6 : wc.heap.size + 1 ≤ w6.heap.size := by (have := HO56.out.size; have := HZ5.out; omega)
        have hnl : ∀ j, p.nown j → j < wc.heap.size := HLT.out
        have hlo : ∀ j, j < wc.heap.size → (∀ k, p.nown k → j ≠ k) → ¬ (p.nown j ∨ j = wc.heap.size ∨ wc.heap.size + 1 ≤ j) := fun j hj hno h => by
          rcases h with h | h | h
          · exact hno j h rfl
          · omega
          · omega
        have hV6 := HO56.out.isBlock (HO5.out.isBlock HR.out.hv id) (fun e => by have := HN.out.hbl; omega)
        refine { clk := ⟨_, hon.isBlock (Q5.out.isBlock HK6.out (hlo _ hckw (fun k hk e => by have := (HN.out.own k hk).1; omega))) (fun e => by have := hrow _ e; omega)⟩, hv := hon.isBlock (Q5.out.isBlock hV6 (hlo _ hbw (fun k hk e => (HN.out.own k hk).2 e.symm))) (fun e => by have := hrow _ e; omega), st := ?_, told := by rw [List.replicate_succ']; exact hown8, only := ?_, size := by have := Q5.out.size; have := hon.size; omega }
        · rcases Q6.out with ⟨hlt, s, Z, i1, i2, i3, i4⟩ | ⟨hke, g, c, r, i1, i2, i3⟩
          · rw [HT.out] at i4
            refine .inl ⟨hlt, s, Z, i1.mono hon (fun j hj e => ?_), i2, hon.isBlock i3 (fun e => by have := hrow _ e; omega), fun i j hj => ⟨(i4 i j hj).1, fun e => ?_⟩⟩
            · rcases hj with hj | ⟨i, hj⟩
              · have := hnl j hj; have := hrow j e; omega
              · exact (i4 i j hj).2 e
            · rcases hat8 with h | h
              · exact (i4 i j hj).2 (by rw [← h]; exact e)
              · rw [h] at e
                have hjl := (i1.zo i j hj).2.2.2
                have := Option.some.inj e
                omega
          · have hty : ∀ j, (Value.slice ta k tc).ownBlock = some j → ∃ cur fr, w7.heap[j]? = some (.cells cur 4 fr) := fun j hj => by obtain ⟨cur, hc⟩ := ownsRow_type HT7 hj; exact ⟨cur, _, hc⟩
            exact .inr ⟨by omega, g, c, r, hon.isBlock i1 (fun e => by have := hrow _ e; omega), ownsRow_keep i2 hon hty (by decide), ownsRow_keep i3.rn hon hty (by decide), ownsRow_keep i3.rp hon hty (by decide), ownsRow_keep i3.dn hon hty (by decide), ownsRow_keep i3.dp hon hty (by decide), i3.len⟩
        · have h1 : Only (fun _ => False) w w5 := HR.out.only.trans HO5.out
          have h2 := Only.widen h1 HO56.out (fun j e => by omega)
          have h3 := Only.widen h2 Q5.out (fun j hj => by
            rcases hj with h | h | h
            · have := (HN.out.own j h).1; omega
            · omega
            · omega)
          exact Only.widen h3 hon (fun j hj => by have := hrow j hj; omega))
      clear hown8 hgr8 hat8 HT7
      go_wp2_with fail
      go_roundw
      case rel => exact ⟨k + 1, hkn, by go_num, HNX.out⟩
      case measure => simp [intOf]; omega
    · have hke : k = steps.length := by omega
      subst hke
      have hk1 : ¬ (steps.length : Int) < (steps.length : Int) := by omega
      clear hkn hk
      rcases HR.out.st with ⟨hle, _⟩ | ⟨hk9, g, c, r, i1, i2, i3⟩
      · have := HNE.out; omega
      clear hk9
      have ov := i1.cell (i := 0) rfl
      obtain ⟨ta, tc, ht⟩ := ownsRow_slice HR.out.told
      have htold := HR.out.told
      rw [ht] at htold
      have HFN : Hid (∃ (g' c' : Nat) (r' : NRec) (vt : Value), Ending.returned (.tuple #[.slice (some ⟨g, 0, none⟩) 1 c, .slice ta steps.length tc, .bool true]) = Ending.returned (.tuple #[.slice (some ⟨g', 0, none⟩) 1 c', vt, .bool true]) ∧ wr.ownsRow w.heap.size 92 13 (.slice (some ⟨g', 0, none⟩) 1 c') 1 r'.cells ∧ NRIn wr w.heap.size r' ∧
          wr.ownsRow w.heap.size 4 1 vt steps.length (List.replicate steps.length (.bool true)) ∧ Only (fun _ => False) w wr) := Lib.hid
        ⟨g, c, r, _, rfl, ownsRow_lower i2 (by have := HN.out.only.size; omega), i3.lower (by have := HN.out.only.size; omega), ownsRow_lower htold (by have := HN.out.only.size; omega), HR.out.only⟩
      clear i1 i2 i3 htold
      go_wp2_with fail
      go_ret3
      exact HFN.out
end Go.Proofs.YtebjclmbacmilaaGreatDoor
