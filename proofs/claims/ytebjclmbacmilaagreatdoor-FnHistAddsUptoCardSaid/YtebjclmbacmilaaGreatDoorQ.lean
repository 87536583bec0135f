/- Contracts of strings.Builder as BuildFQName uses it, and of BuildFQName at the one name that the thin package gives. No conditions. -/
import Derived.Test.YtebjclmbacmilaaGreatDoorE
import Derived.Test.YtebjclmbacmilaaGreatDoorSh
import Derived.Lib.AppendStr
namespace Go.Proofs.YtebjclmbacmilaaGreatDoor
open Go.RowKit

theorem info5 : (Tryz.prog.info? 5).map (fun i => (i.zero, i.size, i.bytes)) = some (some (.int .u8 0), 1, 1) := by kernel_rfl
theorem size274 : (Tryz.prog.info? 274).map (fun i => i.size) = some 2 := by kernel_rfl

theorem ownsRow_slice {w : World} {base : Nat} {e : TypeId} {size : Nat} {v : Value} {n : Nat} {xs : List Value} (h : w.ownsRow base e size v n xs) : ∃ a c, v = .slice a n c := by
  rcases h.2 with ⟨hv, rfl⟩ | ⟨g, cap, cur, hv, _⟩
  · exact ⟨_, _, hv⟩
  · exact ⟨_, _, hv⟩
/-- A row's block is not a block of another element type. -/
theorem ownsRow_ne {w : World} {base : Nat} {e T : TypeId} {size : Nat} {v : Value} {n b : Nat} {xs : List Value} {cs : Array Value} {fr : Nat × Nat} (h : w.ownsRow base e size v n xs) (hb : w.heap[b]? = some (.cells cs T fr)) (hT : T ≠ e) :
    v.ownBlock ≠ some b := by
  rcases h.2 with ⟨hv, _⟩ | ⟨g, cap, cur, hv, _, hh, _⟩
  · rw [hv]; intro e; cases e
  · rw [hv]
    intro e1
    have : g = b := Option.some.inj e1
    subst this
    rw [hh] at hb
    cases hb
    exact hT rfl

set_option maxRecDepth 100000 in
theorem copyCheck_self (b : Nat) (w : World) (h : w.cell? ⟨b, 0, none⟩ = some (.pointer (some ⟨b, 0, none⟩))) :
    Calls Tryz.prog 135 #[.pointer (some ⟨b, 0, none⟩)] w fun e w' => e = .returned (.tuple #[]) ∧ w' = w := by
  obtain ⟨j, hj, _⟩ := Option.map_eq_some_iff.1 size274
  go_enter Tryz.func135, Tryz.ntmps135
  go_wp2
  rw [Lib.run_neq_ptr_same w _ Tryz.underlying272 hj]
  go_wp2
  go_end0
  exact ⟨rfl, rfl⟩

set_option maxRecDepth 100000 in
set_option maxHeartbeats 400000 in
theorem writeString_any (B b : Nat) (bs : List Value) (s : ByteArray) (w : World) (h : Lib.BuilderAt 274 5 B b (.pointer (some ⟨b, 0, none⟩)) bs w) (hB : B ≤ w.heap.size) (hl : bs.length + s.size ≤ 100000) :
    Calls Tryz.prog 119 #[.pointer (some ⟨b, 0, none⟩), .string s] w fun e w' => e = .returned (.tuple #[.int .i64 s.size, .nilIface]) ∧ Lib.BuilderAt 274 5 B b (.pointer (some ⟨b, 0, none⟩)) (bs ++ Lib.strCells s) w' ∧ Below B w w' := by
  obtain ⟨hBb, v, hb, hown, hne⟩ := h
  obtain ⟨i5, hi5, hz5, hs5, hb5⟩ := info_parts info5
  have c0 : w.cell? ⟨b, 0, none⟩ = some (.pointer (some ⟨b, 0, none⟩)) := by simp [World.cell?, hb]
  have c1 : w.cell? ⟨b, 1, none⟩ = some v := by simp [World.cell?, hb]
  have HB := Lib.hid hb
  have HO := Lib.hid hown
  have HN := Lib.hid hne
  clear hb hown hne
  go_enter Tryz.func119, Tryz.ntmps119
  go_wp2_with (first
    | (go_at_call 135; refine (copyCheck_self _ _ c0).mono ?_; rintro e w' ⟨rfl, rfl⟩)
    | (at_builtin; go_loud (refine Lib.wpList_append_own_string _ rfl _ _ 265 9 rfl B 5 i5 Tryz.underlying265 Tryz.underlying9 hi5 hz5 hs5 hb5 v bs.length bs rfl HO.out s rfl ?c1 ?c2 hB ?_)))
  case c1 => unfold maxLen; omega
  case c2 => omega
  intro v' w1 hown1 hgr hnil

  have hwb : w1.heap[b]? = some (.cells #[.pointer (some ⟨b, 0, none⟩), v] 274 (0, 0)) := by
    rw [hgr.block b (lt_of_block HB.out) (fun e => HN.out e.symm)]; exact HB.out
  have d1 : w1.cell? ⟨b, 1, none⟩ = some v := by simp [World.cell?, hwb]
  have e1 : w1.frozen? ⟨b, 1, none⟩ = false := by simp [World.frozen?, hwb]
  obtain ⟨va, vc, rfl⟩ := ownsRow_slice hown1
  have HO1 := Lib.hid hown1
  have HG := Lib.hid hgr
  have HW := Lib.hid hwb
  clear hown1 hgr hnil hwb c0 c1
  go_wp2
  go_ret2
  have hne := ownsRow_ne HO1.out HW.out (by decide)
  refine ⟨rfl, ⟨hBb, _, ?_, ?_, hne⟩, ?_⟩
  · simp [World.setCell, Array.getElem?_modify, HW.out]
  · have hr := ownsRow_setCell_other HO1.out (a := ⟨b, 1, none⟩) hne (.slice va (bs.length + s.size) vc)
    have hl : (bs ++ Lib.strCells s).length = bs.length + s.size := by have := HO1.out.1; omega
    rw [hl]; exact hr
  · exact ((Below.refl B w').grown HG.out hB (fun k hk => (HO.out.lt k hk).1)).setCell hBb _

set_option maxRecDepth 100000 in
set_option maxHeartbeats 800000 in
theorem buildFQName_h (w : World) :
    Calls Tryz.prog 90 #[.string ⟨#[]⟩, .string ⟨#[]⟩, .string ⟨#[104]⟩] w fun e w' => e = .returned (.string ⟨#[104]⟩) ∧ Below w.heap.size w w' := by
  go_enter Tryz.func90, Tryz.ntmps90
  go_wp2_with fail
  refine (Tryz.Builder_Grow_fresh w.heap.size w.heap.size 3 _ (Nat.le_refl _) (by show (w.heap.push _)[w.heap.size]? = _; simp) (by simp) (by omega)).mono ?_
  rintro e w1 ⟨rfl, hb1, hbl1⟩
  have hs1 : w.heap.size ≤ w1.heap.size := by have := hbl1.size; simp at this; omega
  have HB1 := Lib.hid hb1
  have HBL := Lib.hid hbl1
  clear hb1 hbl1
  go_wp2_with fail
  refine (writeString_any w.heap.size w.heap.size [] ⟨#[104]⟩ w1 HB1.out hs1 (by decide)).mono ?_
  rintro e w2 ⟨rfl, hb2, hbl2⟩
  have HB2 := Lib.hid hb2
  have HBL2 := Lib.hid hbl2
  clear hb2 hbl2
  go_wp2_with fail
  refine (Tryz.Builder_String w.heap.size w.heap.size [104] w2 (.inr HB2.out) (by simp)).mono ?_
  rintro e w3 ⟨rfl, hbl3⟩
  have HBL3 := Lib.hid hbl3
  clear hbl3
  go_wp2_with fail
  go_ret
  exact ⟨rfl, (((Below.refl _ w).alloc (Nat.le_refl _) _).trans HBL.out).trans (HBL2.out.trans HBL3.out)⟩
end Go.Proofs.YtebjclmbacmilaaGreatDoor
