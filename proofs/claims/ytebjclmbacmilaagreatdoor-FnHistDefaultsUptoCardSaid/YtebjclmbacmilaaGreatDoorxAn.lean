/- What Write defers: the cold counters of both sides added to the hot ones. Conditions: as stated. addAndResetCounts where there are no classic buckets. Conditions: as stated. -/
import Derived.Test.YtebjclmbacmilaaGreatDoorxKe
import Derived.Deep.RegionHeld3
import Derived.Test.YtebjclmbacmilaaGreatDoorM
import Derived.Test.YtebjclmbacmilaaGreatDoorxH
namespace Go.Proofs.YtebjclmbacmilaaGreatDoor
open Go.RowKit Go.Maps

/-- One side. -/
theorem sideAdd (i : Bool) (cc bc ch bh bx1 bx2 m mh : Nat) (t s : CSt) (Zc Zh : Nat → Prop) (w : World) (Hc : IsBlock w cc (t.cells bc)) (Hh : IsBlock w ch (s.cells bh)) (Nc : NSt w Zc t.pos t.neg m) (Nh : NSt w Zh s.pos s.neg mh) (hm : m ≤ 268435456) (hmh : mh ≤ 2305843009213693952)
    (hZc : ∀ k, Zc k → k ≠ ch ∧ k ≠ cc ∧ k < w.heap.size ∧ k ≠ bx1 ∧ k ≠ bx2) (hZh : ∀ k, Zh k → k ≠ ch ∧ k ≠ cc ∧ k < w.heap.size ∧ ¬ Zc k ∧ k ≠ bx1 ∧ k ≠ bx2) (hcc : cc ≠ ch)
    (h1 : IsBlock w bx1 [.pointer (some ⟨ch, offOf i, none⟩)]) (h2 : IsBlock w bx2 [.pointer (some ⟨ch, 5, none⟩)]) (hb : bx1 ≠ ch ∧ bx2 ≠ ch) :
    Calls Tryz.prog 255 #[.pointer (some ⟨cc, offOf i, none⟩), .func (.func 270) #[] #[.pointer (some ⟨bx1, 0, none⟩), .pointer (some ⟨bx2, 0, none⟩)]] w fun e w' => e = .returned (.tuple #[]) ∧
      (∃ (s' : CSt) (Zh' : Nat → Prop), SameC s s' ∧ IsBlock w' ch (s'.cells bh) ∧ NSt w' Zh' s'.pos s'.neg (mh + m * (m + 1)) ∧ (∀ k, Zh' k → Zh k ∨ w.heap.size ≤ k ∧ k < w'.heap.size) ∧ NSt w' Zc t.pos t.neg m) ∧ Only (fun k => Zh k ∨ k = ch ∨ Zc k) w w' := by
  obtain ⟨Sp, Sn, np, nn, Np, Nn, q1, q2, q3, q4, q5, q6, q7, q8⟩ := Nc
  cases i
  · obtain ⟨ks, hks, hkl⟩ := keys_at q1
    refine (rangeAdd false cc 7 ch bh bx1 bx2 np mh m s Zh Sp t.pos Np ks w (Hc.cell rfl) Hh Nh q1 q7 (by omega) (by omega) hmh hks hkl (fun k hk => ?_) (fun k hk => ?_) hcc h1 h2 hb).mono ?_
    · obtain ⟨a, b, c, d, e⟩ := hZh k hk
      exact ⟨a, b, c, fun h => d (q6 k (.inl h)), e⟩
    · exact hZc k (q6 k (.inl hk))
    · rintro e w' ⟨rfl, ⟨s', Z', N', r1, r2, r3, r4, r5, r6⟩, ho⟩
      refine ⟨rfl, ⟨s', Z', r1, r2, r3.more (Nat.add_le_add_left (Nat.mul_le_mul q3 (Nat.le_refl _)) mh), r4, ⟨Sp, Sn, np, nn, N', Nn, r5, q2.kept ho (fun k hk e => ?_), q3, q4, q5, q6, r6, q8⟩⟩, ho.mono (fun k _ e => e.imp id (fun e => e.imp id (fun e => q6 k (.inl e))))⟩
      rcases e with e | e | e
      · exact (hZh k e).2.2.2.1 (q6 k (.inr hk))
      · exact (hZc k (q6 k (.inr hk))).1 e
      · exact q5 k e hk
  · obtain ⟨ks, hks, hkl⟩ := keys_at q2
    refine (rangeAdd true cc 8 ch bh bx1 bx2 nn mh m s Zh Sn t.neg Nn ks w (Hc.cell rfl) Hh Nh q2 q8 (by omega) (by omega) hmh hks hkl (fun k hk => ?_) (fun k hk => ?_) hcc h1 h2 hb).mono ?_
    · obtain ⟨a, b, c, d, e⟩ := hZh k hk
      exact ⟨a, b, c, fun h => d (q6 k (.inr h)), e⟩
    · exact hZc k (q6 k (.inr hk))
    · rintro e w' ⟨rfl, ⟨s', Z', N', r1, r2, r3, r4, r5, r6⟩, ho⟩
      refine ⟨rfl, ⟨s', Z', r1, r2, r3.more (Nat.add_le_add_left (Nat.mul_le_mul q4 (Nat.le_refl _)) mh), r4, ⟨Sp, Sn, np, nn, Np, N', q1.kept ho (fun k hk e => ?_), r5, q3, q4, q5, q6, q7, r6⟩⟩, ho.mono (fun k _ e => e.imp id (fun e => e.imp id (fun e => q6 k (.inr e))))⟩
      rcases e with e | e | e
      · exact (hZh k e).2.2.2.1 (q6 k (.inl hk))
      · exact (hZc k (q6 k (.inl hk))).1 e
      · exact q5 k hk e

/-- Before and behind what Write defers. -/
structure DIn (z7 z8 cc ch bc bh m mh : Nat) (t s : CSt) (Zc Zh : Nat → Prop) (w : World) : Prop where
  h7 : IsBlock w z7 [.pointer (some ⟨ch, 0, none⟩)]
  h8 : IsBlock w z8 [.pointer (some ⟨cc, 0, none⟩)]
  Hc : IsBlock w cc (t.cells bc)
  Hh : IsBlock w ch (s.cells bh)
  Nc : NSt w Zc t.pos t.neg m
  Nh : NSt w Zh s.pos s.neg mh
  zc : ∀ k, Zc k → k ≠ ch ∧ k ≠ cc ∧ k ≠ z7 ∧ k ≠ z8 ∧ k < w.heap.size
  zh : ∀ k, Zh k → k ≠ ch ∧ k ≠ cc ∧ k ≠ z7 ∧ k ≠ z8 ∧ k < w.heap.size ∧ ¬ Zc k
  ne : cc ≠ ch ∧ z7 ≠ ch ∧ z8 ≠ ch
theorem DIn.kept {z7 z8 cc ch bc bh m mh : Nat} {t s : CSt} {Zc Zh : Nat → Prop} {w w' : World} (D : DIn z7 z8 cc ch bc bh m mh t s Zc Zh w) (ho : Only (fun _ => False) w w') : DIn z7 z8 cc ch bc bh m mh t s Zc Zh w' := by
  have := ho.size
  exact ⟨ho.isBlock D.h7 id, ho.isBlock D.h8 id, ho.isBlock D.Hc id, ho.isBlock D.Hh id, D.Nc.kept ho (fun _ _ => id), D.Nh.kept ho (fun _ _ => id), fun k hk => by obtain ⟨a, b, c, d, e⟩ := D.zc k hk; exact ⟨a, b, c, d, by omega⟩, fun k hk => by obtain ⟨a, b, c, d, e, f⟩ := D.zh k hk; exact ⟨a, b, c, d, by omega, f⟩, D.ne⟩
/-- One of both statements of the deferred literal, at the call of Range. -/
theorem DIn.side (i : Bool) (off : Nat) (hoff : offOf i = off) {z7 z8 cc ch bc bh m mh : Nat} {t s : CSt} {Zc Zh : Nat → Prop} {w : World} (D : DIn z7 z8 cc ch bc bh m mh t s Zc Zh w) (hm : m ≤ 268435456) (hmh : mh ≤ 2305843009213693952) (wy : World) (ho : Only (fun _ => False) w wy)
    (h1 : IsBlock wy w.heap.size [.pointer (some ⟨ch, off, none⟩)]) (h2 : IsBlock wy (w.heap.size + 1) [.pointer (some ⟨ch, 5, none⟩)]) :
    Calls Tryz.prog 255 #[.pointer (some ⟨cc, off, none⟩), .func (.func 270) #[] #[.pointer (some ⟨w.heap.size, 0, none⟩), .pointer (some ⟨w.heap.size + 1, 0, none⟩)]] wy fun e w' => e = .returned (.tuple #[]) ∧
      (∃ (s' : CSt) (Zh' : Nat → Prop), SameC s s' ∧ DIn z7 z8 cc ch bc bh m (mh + m * (m + 1)) t s' Zc Zh' w' ∧ ∀ k, Zh' k → Zh k ∨ w.heap.size ≤ k) ∧ Only (fun k => Zh k ∨ k = ch ∨ Zc k) w w' := by
  subst hoff
  have hsz := ho.size
  have hchl := D.Hh.lt
  have h7l := D.h7.lt
  have h8l := D.h8.lt
  have hcl := D.Hc.lt
  refine (sideAdd i cc bc ch bh w.heap.size (w.heap.size + 1) m mh t s Zc Zh wy (ho.isBlock D.Hc id) (ho.isBlock D.Hh id) (D.Nc.kept ho (fun _ _ => id)) (D.Nh.kept ho (fun _ _ => id)) hm hmh (fun k hk => ?_) (fun k hk => ?_) D.ne.1 h1 h2 ⟨by omega, by omega⟩).mono ?_
  · obtain ⟨a, b, c, d, e⟩ := D.zc k hk
    exact ⟨a, b, by omega, by omega, by omega⟩
  · obtain ⟨a, b, c, d, e, f⟩ := D.zh k hk
    exact ⟨a, b, by omega, f, by omega, by omega⟩
  · rintro e w' ⟨rfl, ⟨s', Z', r1, r2, r3, r4, r5⟩, ho'⟩
    have hz' := ho'.size
    have hout : ∀ k, k < w.heap.size → k ≠ ch → (∀ j, (Zh j ∨ Zc j) → k ≠ j) → ¬ (Zh k ∨ k = ch ∨ Zc k) := fun k hk h1 h2 e => by
      rcases e with e | e | e
      · exact h2 k (.inl e) rfl
      · exact h1 e
      · exact h2 k (.inr e) rfl
    have n7 : ∀ j, (Zh j ∨ Zc j) → z7 ≠ j := fun j hj e => by
      rcases hj with h | h
      · exact (D.zh j h).2.2.1 e.symm
      · exact (D.zc j h).2.2.1 e.symm
    have n8 : ∀ j, (Zh j ∨ Zc j) → z8 ≠ j := fun j hj e => by
      rcases hj with h | h
      · exact (D.zh j h).2.2.2.1 e.symm
      · exact (D.zc j h).2.2.2.1 e.symm
    have nc : ∀ j, (Zh j ∨ Zc j) → cc ≠ j := fun j hj e => by
      rcases hj with h | h
      · exact (D.zh j h).2.1 e.symm
      · exact (D.zc j h).2.1 e.symm
    refine ⟨rfl, ⟨s', Z', r1, ⟨ho'.isBlock (ho.isBlock D.h7 id) (hout _ h7l D.ne.2.1 n7), ho'.isBlock (ho.isBlock D.h8 id) (hout _ h8l D.ne.2.2 n8), ho'.isBlock (ho.isBlock D.Hc id) (hout _ hcl D.ne.1 nc), r2, r5, r3, fun k hk => ?_, fun k hk => ?_, D.ne⟩, fun k hk => (r4 k hk).imp id (fun h => by omega)⟩, (ho.mono (fun _ _ e => e.elim)).trans ho'⟩
    · obtain ⟨a, b, c, d, e⟩ := D.zc k hk
      exact ⟨a, b, c, d, by omega⟩
    · rcases r4 k hk with h | h
      · obtain ⟨a, b, c, d, e, f⟩ := D.zh k h
        exact ⟨a, b, c, d, by omega, f⟩
      · exact ⟨by omega, by omega, by omega, by omega, h.2, fun hz => by have := (D.zc k hz).2.2.2.2; omega⟩
theorem Only.widen' {S T : Nat → Prop} {a b c : World} (h : Only S a b) (k : Only T b c) (hT : ∀ j, T j → S j ∨ a.heap.size ≤ j) : Only S a c :=
  ⟨k.os.trans h.os, k.tape.trans h.tape, k.output.trans h.output, Nat.le_trans h.size k.size,
    fun i hi hs => (k.block i (Nat.lt_of_lt_of_le hi h.size) (fun ht => (hT i ht).elim hs (fun e => by omega))).trans (h.block i hi hs)⟩
theorem mh_le (m : Nat) (hm : m ≤ 268435456) : m + m * (m + 1) ≤ 2305843009213693952 := by
  have h := Nat.mul_le_mul hm (show m + 1 ≤ 268435457 by omega)
  omega

set_option maxRecDepth 100000 in
set_option maxHeartbeats 800000 in
/-- The literal that Write defers. -/
theorem writeD_any (z7 z8 cc ch bc bh m : Nat) (t s : CSt) (Zc Zh : Nat → Prop) (w : World) (u : FrameMode) (D : DIn z7 z8 cc ch bc bh m m t s Zc Zh w) (hm : m ≤ 268435456) :
    CallsD Tryz.prog 254 #[.pointer (some ⟨z8, 0, none⟩), .pointer (some ⟨z7, 0, none⟩)] u w fun e u' w' => u' = u ∧ (e = .returned (.tuple #[]) ∧
      (∃ (s' : CSt) (Zh' : Nat → Prop) (mh : Nat), SameC s s' ∧ DIn z7 z8 cc ch bc bh m mh t s' Zc Zh' w' ∧ ∀ k, Zh' k → Zh k ∨ w.heap.size ≤ k) ∧ Only (fun k => Zh k ∨ k = ch ∨ Zc k) w w') := by
  have c7 := D.h7.cell (i := 0) rfl
  have c8 := D.h8.cell (i := 0) rfl
  have g8 : (w.alloc (.cells #[.pointer (some ⟨ch, 7, none⟩)] 397)).cell? ⟨z8, 0, none⟩ = some (.pointer (some ⟨cc, 0, none⟩)) := cell_past c8 _
  have k8 : ((w.alloc (.cells #[.pointer (some ⟨ch, 7, none⟩)] 397)).alloc (.cells #[.pointer (some ⟨ch, 5, none⟩)] 210)).cell? ⟨z8, 0, none⟩ = some (.pointer (some ⟨cc, 0, none⟩)) := cell_past g8 _
  have HD := Lib.hid D
  clear D
  go_enter_d Tryz.func254, Tryz.ntmps254
  go_wp2_with fail
  go_region_held3 (fun wx => wx.cell? ⟨z8, 0, none⟩ = some (.pointer (some ⟨cc, 0, none⟩)) ∧ wx.cell? ⟨z7, 0, none⟩ = some (.pointer (some ⟨ch, 0, none⟩)))
    (refine ⟨?_, ?_⟩ <;> ((try simp only [World.cell?_drew]); repeat (first | assumption | apply cell_past)))
    (first
      | (go_at_call 256; refine (addAndResetF _ _ _).mono ?_; rintro e w' ⟨rfl, rfl⟩)
      | (go_at_call 255; refine (DIn.side false 7 rfl HD.out hm (by omega) _ (by with_reducible (repeat (first | exact Only.refl _ _ | apply Only.drew | apply Only.alloc))) (by with_reducible (repeat (first | (refine blk_new' _ [.pointer (some ⟨ch, 7, none⟩)] 397 _ ?_; (first | rfl | simp)) | apply IsBlock.drew | apply IsBlock.alloc))) (by with_reducible (repeat (first | (refine blk_new' _ [.pointer (some ⟨ch, 5, none⟩)] 210 _ ?_; (first | rfl | simp)) | apply IsBlock.drew | apply IsBlock.alloc)))).mono ?_; rintro e w1 ⟨rfl, ⟨s1, Z1, r1, r2, r3⟩, r4⟩; have d7 := r2.h7.cell (i := 0) rfl; have d8 := r2.h8.cell (i := 0) rfl))
  all_goals
    have j8 : (w1.alloc (.cells #[.pointer (some ⟨ch, 8, none⟩)] 397)).cell? ⟨z8, 0, none⟩ = some (.pointer (some ⟨cc, 0, none⟩)) := cell_past d8 _
    have i8 : ((w1.alloc (.cells #[.pointer (some ⟨ch, 8, none⟩)] 397)).alloc (.cells #[.pointer (some ⟨ch, 5, none⟩)] 210)).cell? ⟨z8, 0, none⟩ = some (.pointer (some ⟨cc, 0, none⟩)) := cell_past j8 _
    have HD1 := Lib.hid r2
    have HR := Lib.hid (And.intro r1 (And.intro r3 r4))
    clear r1 r2 r3 r4 c7 c8 g8 k8
    go_wp2_with fail
    go_region_held3 (fun wx => wx.cell? ⟨z8, 0, none⟩ = some (.pointer (some ⟨cc, 0, none⟩)) ∧ wx.cell? ⟨z7, 0, none⟩ = some (.pointer (some ⟨ch, 0, none⟩)))
      (refine ⟨?_, ?_⟩ <;> ((try simp only [World.cell?_drew]); repeat (first | assumption | apply cell_past)))
      (first
        | (go_at_call 256; refine (addAndResetF _ _ _).mono ?_; rintro e w' ⟨rfl, rfl⟩)
        | (go_at_call 255; refine (DIn.side true 8 rfl HD1.out hm (mh_le m hm) _ (by with_reducible (repeat (first | exact Only.refl _ _ | apply Only.drew | apply Only.alloc))) (by with_reducible (repeat (first | (refine blk_new' _ [.pointer (some ⟨ch, 8, none⟩)] 397 _ ?_; (first | rfl | simp)) | apply IsBlock.drew | apply IsBlock.alloc))) (by with_reducible (repeat (first | (refine blk_new' _ [.pointer (some ⟨ch, 5, none⟩)] 210 _ ?_; (first | rfl | simp)) | apply IsBlock.drew | apply IsBlock.alloc)))).mono ?_; rintro e w2 ⟨rfl, ⟨s2, Z2, r1, r2, r3⟩, r4⟩; have d7' := r2.h7.cell (i := 0) rfl; have d8' := r2.h8.cell (i := 0) rfl))
    all_goals
      have HF : Hid ((∃ (s' : CSt) (Zh' : Nat → Prop) (mh : Nat), SameC s s' ∧ DIn z7 z8 cc ch bc bh m mh t s' Zc Zh' w2 ∧ ∀ k, Zh' k → Zh k ∨ w.heap.size ≤ k) ∧ Only (fun k => Zh k ∨ k = ch ∨ Zc k) w w2) := Lib.hid (by
        have hz := HR.out.2.2.size
        refine ⟨⟨s2, Z2, _, HR.out.1.trans r1, r2, fun k hk => ?_⟩, Only.widen' HR.out.2.2 r4 (fun k hk => ?_)⟩
        · rcases r3 k hk with h | h
          · exact HR.out.2.1 k h
          · right; omega
        · rcases hk with h | h | h
          · exact (HR.out.2.1 k h).imp .inl id
          · exact .inl (.inr (.inl h))
          · exact .inl (.inr (.inr h)))
      clear r1 r2 r3 r4 d7' d8'
      go_wp2_with fail
      go_end0
      exact ⟨rfl, HF.out⟩
end Go.Proofs.YtebjclmbacmilaaGreatDoor

namespace Go.Proofs.YtebjclmbacmilaaGreatDoor
open Go.RowKit

def CSt.takeN (a b : CSt) (r : Nat) : CSt := { a with sum := r, cnt := a.cnt + b.cnt, zero := a.zero + b.zero }
def CSt.leftN (b : CSt) : CSt := { b with sum := 0, cnt := 0, zero := 0 }
set_option maxRecDepth 100000 in
set_option maxHeartbeats 1600000 in
theorem addAndReset_nil (ca cb ba bb : Nat) (a b : CSt) (w : World) (Ha : IsBlock w ca (a.cells ba)) (Hb : IsBlock w cb (b.cells bb)) (hab : ca ≠ cb) (hak : a.bk = [])
    (hc : a.cnt + b.cnt ≤ 4611686018427387904) (hz : a.zero + b.zero ≤ 4611686018427387904) :
    Calls Tryz.prog 260 #[.pointer (some ⟨ca, 0, none⟩), .pointer (some ⟨cb, 0, none⟩)] w fun e w' => e = .returned (.tuple #[]) ∧ ∃ r, AddTo a.sum b.sum r ∧
      IsBlock w' ca ((a.takeN b r).cells ba) ∧ IsBlock w' cb (b.leftN.cells bb) ∧ Only (fun k => k = ca ∨ k = cb) w w' := by
  have a1 := Ha.cell (i := 1) rfl
  have b1 := Hb.cell (i := 1) rfl
  have fa1 := Ha.free 1
  have fb1 := Hb.free 1
  have a0 := Ha.cell (i := 0) rfl
  have b0 := Hb.cell (i := 0) rfl
  have fa0 := Ha.free 0
  have fb0 := Hb.free 0
  have hba : ¬ cb = ca := fun h => hab h.symm
  have hc' : (a.cnt : Int) + (b.cnt : Int) ≤ 4611686018427387904 := by omega
  have p1 : (0 : Int) ≤ (a.cnt : Int) := by omega
  have p2 : (0 : Int) ≤ (b.cnt : Int) := by omega
  have HA := Lib.hid Ha
  have HB := Lib.hid Hb
  have HZ := Lib.hid hz
  have HK := Lib.hid hak
  clear Ha Hb hc hz hak
  go_enter Tryz.func260, Tryz.ntmps260
  go_wp2_with fail
  go_region
  go_wp2_with fail
  refine (atomicAddFloat_any ⟨ca, 0, none⟩ a.sum b.sum _ ?_ ?_).mono ?_
  · go_simp
  · go_simp
  rintro e w1 ⟨r, d, hadd, rfl, hw1⟩
  have A1 : IsBlock w1 ca (({ a with sum := r, cnt := a.cnt + b.cnt } : CSt).cells ba) := by
    rw [hw1]
    exact ((((HA.out.set 1 (.int .u64 ((a.cnt : Int) + (b.cnt : Int)))).set_ne (a := ⟨cb, 1, none⟩) hab (.int .u64 0)).drew).drewN d).set 0 (.int .u64 (r : Nat))
  have B1 : IsBlock w1 cb (({ b with cnt := 0 } : CSt).cells bb) := by
    rw [hw1]
    exact ((((HB.out.set_ne (a := ⟨ca, 1, none⟩) hba (.int .u64 ((a.cnt : Int) + (b.cnt : Int)))).set 1 (.int .u64 0)).drew).drewN d).set_ne (a := ⟨ca, 0, none⟩) hba (.int .u64 (r : Nat))
  have O1 : Only (fun k => k = ca ∨ k = cb) w w1 := by
    rw [hw1]
    exact ((((((Only.refl _ w).setCell (p := ⟨ca, 1, none⟩) (.inl (.inl rfl)) _).setCell (p := ⟨cb, 1, none⟩) (.inl (.inr rfl)) _).drew).drewN d).setCell (p := ⟨ca, 0, none⟩) (.inl (.inl rfl)) _)
  clear hw1 a1 b1 fa1 fb1 a0 b0 fa0 fb0 hc' p1 p2
  have HAdd := Lib.hid hadd
  clear hadd
  have b0 := B1.cell (i := 0) rfl
  have fb0 := B1.free 0
  have a6 : w1.cell? ⟨ca, 6, none⟩ = some (.slice (some ⟨ba, 0, none⟩) 0 0) := by have h := A1.cell (i := 6) rfl; rw [HK.out] at h; exact h
  have R2 : Hid (IsBlock (w1.setCell ⟨cb, 0, none⟩ (.int .u64 0)) ca (({ a with sum := r, cnt := a.cnt + b.cnt } : CSt).cells ba) ∧ IsBlock (w1.setCell ⟨cb, 0, none⟩ (.int .u64 0)) cb (({ b with cnt := 0, sum := 0 } : CSt).cells bb) ∧ Only (fun k => k = ca ∨ k = cb) w (w1.setCell ⟨cb, 0, none⟩ (.int .u64 0))) := Lib.hid
    ⟨A1.set_ne (a := ⟨cb, 0, none⟩) hab (.int .u64 0), B1.set 0 (.int .u64 0), O1.setCell (p := ⟨cb, 0, none⟩) (.inl (.inr rfl)) (.int .u64 0)⟩
  clear A1 B1 O1
  go_wp2_with fail
  refine wp_loop_rounds 1 ?_
  rw [rounds_succ]
  clear a6 b0 fb0
  generalize w1.setCell ⟨cb, 0, none⟩ (.int .u64 0) = w2 at *
  have a2 : w2.cell? ⟨ca, 2, none⟩ = some (.int .u64 a.zero) := R2.out.1.cell (i := 2) rfl
  have b2 : w2.cell? ⟨cb, 2, none⟩ = some (.int .u64 b.zero) := R2.out.2.1.cell (i := 2) rfl
  have fa := R2.out.1.free 2
  have fb := R2.out.2.1.free 2
  have q1 : (a.zero : Int) + (b.zero : Int) ≤ 4611686018427387904 := by have := HZ.out; omega
  have q2 : (0 : Int) ≤ (a.zero : Int) := by omega
  have q3 : (0 : Int) ≤ (b.zero : Int) := by omega
  go_wp2_with fail
  go_region
  go_wp2_with fail
  go_end0
  refine ⟨rfl, r, HAdd.out, ?_, ?_, ?_⟩
  · exact ((R2.out.1.set 2 (.int .u64 ((a.zero : Int) + (b.zero : Int)))).set_ne (a := ⟨cb, 2, none⟩) hab (.int .u64 0)).drew
  · exact ((R2.out.2.1.set_ne (a := ⟨ca, 2, none⟩) (fun h => hab h.symm) (.int .u64 ((a.zero : Int) + (b.zero : Int)))).set 2 (.int .u64 0)).drew
  · exact ((R2.out.2.2.setCell (p := ⟨ca, 2, none⟩) (.inl (.inl rfl)) _).setCell (p := ⟨cb, 2, none⟩) (.inl (.inr rfl)) _).drew
end Go.Proofs.YtebjclmbacmilaaGreatDoor
