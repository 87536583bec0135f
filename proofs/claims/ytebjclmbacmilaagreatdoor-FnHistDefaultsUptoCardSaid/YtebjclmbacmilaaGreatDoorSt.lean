/- Contracts of the function literal of HistRun, classic, without exemplars: an observation; a writing. Conditions: as stated. -/
import Derived.Test.YtebjclmbacmilaaGreatDoorHo
import Derived.Laws.EntriesVeiled
import Derived.Deep.RegionHeld3
import Derived.Deep.AppendLies
import Derived.Deep.RegionLaw
namespace Go.Proofs.YtebjclmbacmilaaGreatDoor
open Go.RowKit

theorem method_observe (a : Addr) (w : World) : (method 591 227 (.pointer (some a)) "Observe").run Tryz.prog w = .ok (237, .pointer (some a)) w := by kernel_rfl
theorem method_write (a : Addr) (w : World) : (method 591 227 (.pointer (some a)) "Write").run Tryz.prog w = .ok (239, .pointer (some a)) w := by kernel_rfl

set_option maxRecDepth 100000 in
set_option maxHeartbeats 1600000 in
theorem step_observe (x hb ob : Nat) (p : Pl) (s : HSt) (v : Nat) (w : World) (H : HIn w p s) (hs : s.sch = -2147483648) (hn : s.n + 1 < 2 ^ 63) (hbd : Incr s.bounds) (hl : s.bounds.length ≤ 2 ^ 62)
    (c0 : w.cell? ⟨x, 0, none⟩ = some (.int .i64 0)) (c1 : w.cell? ⟨x, 1, none⟩ = some (.float .f64 v)) (ch : w.cell? ⟨hb, 0, none⟩ = some (.iface 227 (.pointer (some ⟨p.h, 0, none⟩)))) :
    Calls Tryz.prog 54 #[.pointer (some ⟨x, 0, none⟩), .pointer (some ⟨hb, 0, none⟩), .pointer (some ⟨ob, 0, none⟩)] w fun e w' => e = .returned (.tuple #[]) ∧
      ∃ r, AddTo (s.c s.hot).sum v r ∧ HIn w' p (s.obs (place s.bounds v) r) ∧ Only p.own w w' := by
  have HC := Lib.hid (observeV_plain p s v w H hs hn hbd hl)
  clear H hs hn hbd hl
  have hm := method_observe ⟨p.h, 0, none⟩ w
  go_enter Tryz.func54, Tryz.ntmps54
  go_wp2_with fail
  refine HC.out.mono ?_
  rintro e w' ⟨rfl, hq⟩
  have HQ := Lib.hid hq
  clear hq HC
  go_wp2_with fail
  go_end0
  exact ⟨rfl, HQ.out⟩

theorem histOf_lit (q : HisPl) (bl : List BP) (cnt sum : Nat) (created : Int) (A : Nat) (w : World) (D : Done w A q bl cnt sum created) (hm : ∀ x ∈ bl, x.mark = .pointer none) (hl : bl.length ≤ 1048577) :
    Calls Tryz.prog 56 #[.pointer (some ⟨q.g, 0, none⟩)] w fun e w' => ∃ va vc, e = .returned (.agg #[.int .u64 cnt, .float .f64 sum, .slice va bl.length vc, .int .i64 created, .bool false, .int .i32 0, .float .f64 0, .int .u64 0, .slice none 0 0, .slice none 0 0, .slice none 0 0, .slice none 0 0, .slice none 0 0]) ∧
      w'.ownsRow w.heap.size 96 6 (.slice va bl.length vc) bl.length (bRow bl) ∧ Only (fun _ => False) w w' := by
  refine (histOf_plain q bl cnt sum created A w D hm hl).mono ?_
  rintro e w' ⟨v, rfl, ho, hon⟩
  obtain ⟨va, vc, rfl⟩ := ownsRow_slice ho
  exact ⟨va, vc, rfl, ho, hon⟩
theorem one_hVals (cnt sum : Nat) (va : Option Addr) (n vc : Nat) (created : Int) : ∀ u ∈ hVals cnt sum (.slice va n vc) created, u.oneCell' = true := by
  intro u hu
  simp only [hVals, List.mem_cons, List.mem_nil_iff, or_false] at hu
  rcases hu with rfl | rfl | rfl | rfl | rfl | rfl | rfl | rfl | rfl | rfl | rfl | rfl | rfl <;> rfl

/-- A written histogram among the results: the count, the sum, the slice of its buckets, its time, and what the buckets hold. -/
structure HRec where
  cnt : Nat
  sum : Nat
  v : Value
  created : Int
  bks : List BP
def hCl (h : HRec) : List Value := hVals h.cnt h.sum h.v h.created
def hRow (l : List HRec) : List Value := l.flatMap hCl
/-- The results so far: the variable at ob holds a slice of the written histograms. -/
structure OIn (w : World) (base ob : Nat) (l : List HRec) : Prop where
  var : ∃ v, IsBlock w ob [v] ∧ w.ownsRow base 92 13 v l.length (hRow l)
  bks : ∀ h ∈ l, w.ownsRow base 96 6 h.v h.bks.length (bRow h.bks)
  lt : ob < base

theorem OIn.mono {w w' : World} {base ob : Nat} {l : List HRec} (h : OIn w base ob l) {S : Nat → Prop} (ho : Only S w w') (hS : ∀ k, S k → k < base ∧ k ≠ ob) : OIn w' base ob l where
  var := by
    obtain ⟨v, h1, h2⟩ := h.var
    exact ⟨v, ho.isBlock h1 (fun hk => (hS _ hk).2 rfl), ho.ownsRow h2 (fun k hk hs => by have := (hS k hs).1; have := (h2.lt k hk).1; omega)⟩
  bks := fun r hr => ho.ownsRow (h.bks r hr) (fun k hk hs => by have := (hS k hs).1; have := ((h.bks r hr).lt k hk).1; omega)
  lt := h.lt

theorem ownsRow_apart {w : World} {b b' : Nat} {e e' : TypeId} {s s' : Nat} {v v' : Value} {n n' : Nat} {xs xs' : List Value} (h : w.ownsRow b e s v n xs) (h' : w.ownsRow b' e' s' v' n' xs') (he : e ≠ e') (k : Nat) (hk : v.ownBlock = some k) : ¬ v'.ownBlock = some k := by
  intro hk'
  rcases h.2 with ⟨rfl, _⟩ | ⟨g, cap, cur, rfl, _, hg, _⟩
  · cases hk
  · cases hk
    rcases h'.2 with ⟨rfl, _⟩ | ⟨g', cap', cur', rfl, _, hg', _⟩
    · cases hk'
    · have : g' = g := by simpa [Value.ownBlock] using hk'
      subst this
      rw [hg] at hg'
      simp only [Option.some.injEq, Obj.cells.injEq] at hg'
      exact he hg'.2.1
theorem oin_close {w w2 w3 w4 : World} {base ob m : Nat} {p : Pl} {l : List HRec} {va v3 : Option Addr} {vc c3 n g4 c4 : Nat} {cnt sum : Nat} {created : Int} {bl : List BP} {o : Obj}
    (HO : OIn w base ob l) (hvo : IsBlock w ob [.slice va l.length vc]) (hro : w.ownsRow base 92 13 (.slice va l.length vc) l.length (hRow l))
    (h2 : Only (fun k => p.own k ∨ k = m) w w2) (hown : ∀ k, p.own k → k < base ∧ k ≠ ob) (hm : w.heap.size ≤ m) (hbw : base ≤ w.heap.size)
    (h3 : Only (fun _ => False) w2 w3) (hn : w3.ownsRow w2.heap.size 96 6 (.slice v3 n c3) n (bRow bl)) (hnl : bl.length = n)
    (h4 : w4.ownsRow base 92 13 (.slice (some ⟨g4, 0, none⟩) (l.length + 1) c4) (l.length + 1) (hRow l ++ hVals cnt sum (.slice v3 n c3) created)) (hg : (w3.alloc o).grownBy w4 (Value.slice va l.length vc).ownBlock) :
    OIn (w4.setCell ⟨ob, 0, none⟩ (.slice (some ⟨g4, 0, none⟩) (l.length + 1) c4)) base ob (l ++ [⟨cnt, sum, .slice v3 n c3, created, bl⟩]) := by
  have hol := HO.lt
  have hbw2 : base ≤ w2.heap.size := by have := h2.size; omega
  have h34 : Only (fun k => (Value.slice va l.length vc).ownBlock = some k) w3 w4 := ((Only.refl _ w3).alloc o).trans (Only.grown hg)
  have hro2 : w2.ownsRow base 92 13 (.slice va l.length vc) l.length (hRow l) := h2.ownsRow hro (fun k hk hs => by
    have := hro.lt k hk
    rcases hs with h | h
    · have := (hown k h).1; omega
    · omega)
  have hro3 := h3.ownsRow hro2 (fun _ _ => id)
  refine ⟨⟨.slice (some ⟨g4, 0, none⟩) (l.length + 1) c4, ?_, ?_⟩, ?_, hol⟩
  · have hb : IsBlock w4 ob [.slice va l.length vc] := by
      refine h34.isBlock (h3.isBlock (h2.isBlock hvo (fun h => ?_)) id) (fun h => ?_)
      · rcases h with h | h
        · exact (hown _ h).2 rfl
        · have := hvo.lt; omega
      · have := (hro.lt _ h).1; omega
    exact hb.set 0 _
  · have : hRow (l ++ [⟨cnt, sum, .slice v3 n c3, created, bl⟩]) = hRow l ++ hVals cnt sum (.slice v3 n c3) created := by
      unfold hRow; rw [List.flatMap_append]; simp [hCl]
    rw [this, List.length_append]
    exact ownsRow_set h4 _ _ hol
  · intro r hr
    rcases List.mem_append.1 hr with hr | hr
    · refine ownsRow_set ?_ _ _ hol
      have hb := HO.bks r hr
      refine h34.ownsRow (h3.ownsRow (h2.ownsRow hb (fun k hk hs => ?_)) (fun _ _ => id)) (fun k hk hs => ?_)
      · have := hb.lt k hk
        rcases hs with h | h
        · have := (hown k h).1; omega
        · omega
      · exact ownsRow_apart hb hro (by decide) k hk hs
    · rw [List.mem_singleton.1 hr]
      refine ownsRow_set ?_ _ _ hol
      refine ownsRow_lower (b := w2.heap.size) ?_ hbw2
      show w4.ownsRow w2.heap.size 96 6 (.slice v3 n c3) bl.length (bRow bl)
      rw [hnl]
      exact h34.ownsRow hn (fun k hk hs => ownsRow_apart hn hro3 (by decide) k hk hs)

/-- Block k is a row of written histograms. -/
def Is92 (w : World) (k : Nat) : Prop := ∃ cur fr, w.heap[k]? = some (.cells cur 92 fr)
theorem is92_of {w : World} {b s n : Nat} {v : Value} {xs : List Value} (h : w.ownsRow b 92 s v n xs) {k : Nat} (hk : v.ownBlock = some k) : Is92 w k := by
  rcases h.2 with ⟨rfl, _⟩ | ⟨g, cap, cur, rfl, _, hg, _⟩
  · cases hk
  · cases hk; exact ⟨cur, _, hg⟩
theorem not92 {w : World} {b e s n : Nat} {v : Value} {xs : List Value} (h : w.ownsRow b e s v n xs) (he : e ≠ 92) {k : Nat} (hk : v.ownBlock = some k) : ¬ Is92 w k := by
  rintro ⟨cur', fr, hc⟩
  rcases h.2 with ⟨rfl, _⟩ | ⟨g, cap, cur, rfl, _, hg, _⟩
  · cases hk
  · cases hk
    rw [show (⟨g, 0, none⟩ : Addr).block = g from rfl] at hc
    rw [hg] at hc
    simp only [Option.some.injEq, Obj.cells.injEq] at hc
    exact he hc.2.1

theorem info92 : (Tryz.prog.info? 92).map (fun i => (i.zero, i.size, i.bytes)) = some (some (.agg (hVals 0 0 (.slice none 0 0) 0).toArray), 13, 192) := by kernel_rfl

set_option maxRecDepth 100000 in
set_option maxHeartbeats 1600000 in
theorem step_write (x hb ob base : Nat) (p : Pl) (s : HSt) (l : List HRec) (w : World) (H : HIn w p s) (hs : s.sch = -2147483648) (hn : s.n ≤ 4611686018427387904) (hl : s.bounds.length ≤ 1048577)
    (hlab : p.labels = .slice none 0 0) (hmk : ∀ m ∈ s.marks, m = .nilIface) (hsum : (s.c s.hot).bk.sum ≤ 4611686018427387904)
    (c0 : w.cell? ⟨x, 0, none⟩ = some (.int .i64 2)) (ch : w.cell? ⟨hb, 0, none⟩ = some (.iface 227 (.pointer (some ⟨p.h, 0, none⟩)))) (O : OIn w base ob l) (hob : ∀ k, p.own k ∨ k = p.u → k < base ∧ k ≠ ob) (hbw : base ≤ w.heap.size) (hll : l.length ≤ 4194304) :
    Calls Tryz.prog 54 #[.pointer (some ⟨x, 0, none⟩), .pointer (some ⟨hb, 0, none⟩), .pointer (some ⟨ob, 0, none⟩)] w fun e w' => e = .returned (.tuple #[]) ∧
      ∃ (r : Nat) (h : HRec), AddTo 0 (s.c s.hot).sum r ∧ HIn w' p (s.wrote r) ∧ OIn w' base ob (l ++ [h]) ∧ h.cnt = s.n ∧ h.sum = (s.c s.hot).sum ∧ h.created = s.last ∧
        h.bks.map (fun x => (x.cum, x.up, x.mark)) = (List.range s.bounds.length).map (bVal (s.c s.hot).bk s.bounds s.marks) ∧ Only (fun k => p.own k ∨ k = ob ∨ base ≤ k ∧ Is92 w k) w w' := by
  obtain ⟨i0, hi, hz0, hz1, hz2⟩ := info_parts info92
  have HH := Lib.hid H
  have HO := Lib.hid O
  have hown : ∀ k, p.own k ∨ k = p.u → k < w.heap.size := fun k hk => by
    rcases hk with hk | rfl
    · rcases hk with rfl | rfl | rfl | rfl | rfl | rfl
      · exact HH.out.hh.lt
      · exact (HH.out.hc _).lt
      · exact (HH.out.hc _).lt
      · exact (HH.out.hb _).lt
      · exact (HH.out.hb _).lt
      · exact HH.out.hx.lt
    · exact HH.out.hu.lt
  have hml : mk s.marks s.bounds.length = .nilIface := hmk _ (List.mem_of_getElem? (getD_mk (by have := H.lx; omega)))
  have hW := write_plain p s w.heap.size (w.alloc (.cells mNew.toArray 138)) (H.kept ((Only.refl _ w).alloc _)) hs hn (IsBlock.new w mNew 138) (by have := hown p.h (.inl (.inl rfl)); omega) (fun k hk => by have := hown k hk; omega) (by omega) hlab (fun m hm => .inl (hmk m hm)) hsum hml
  rw [World.size_alloc] at hW
  have hs1 : (w.alloc (.cells mNew.toArray 138)).heap.size = w.heap.size + 1 := World.size_alloc _ _
  have ch1 := cell_past ch (.cells mNew.toArray 138)
  have HC1 : Hid (w.heap.size ≤ (w.alloc (.cells mNew.toArray 138)).heap.size) := Lib.hid (by omega)
  have HO1 : Hid (Only (fun _ => False) w (w.alloc (.cells mNew.toArray 138))) := Lib.hid ((Only.refl _ w).alloc _)
  have HHN := Lib.hid hown
  have HOB := Lib.hid hob
  have HMK := Lib.hid hmk
  clear H O hown hob hmk hml
  go_enter Tryz.func54, Tryz.ntmps54
  go_upto_region 7 with fail
  refine (?_ : ∀ w1, w1 = w.alloc (.cells mNew.toArray 138) → Code.wp _ _ _ _ w1) _ rfl
  intro w1 hw1
  rw [← hw1] at hW ch1 HC1 HO1 hs1
  have HS1 := Lib.hid hs1
  have HW := Lib.hid hW
  clear hw1 hW hs1
  have hm := method_write ⟨p.h, 0, none⟩ w1
  go_wp2_with fail
  refine HW.out.mono ?_
  rintro e w2 ⟨rfl, q, bl, r, hadd, hin, hd, hv, hout, hon⟩
  have HD := Lib.hid hd
  have HIN := Lib.hid hin
  have HV := Lib.hid hv
  have HADD := Lib.hid hadd
  have HOU := Lib.hid hout
  have HON := Lib.hid hon
  clear hd hin hv hadd hout hon HW hm
  go_wp2_with fail
  obtain ⟨vo, hvo, hro⟩ := HO.out.var
  obtain ⟨va, vc, hvs⟩ := ownsRow_slice hro
  rw [hvs] at hvo hro
  have hol := HO.out.lt
  have hnin : ∀ k, p.own k ∨ k = w.heap.size → k < base ∧ k ≠ ob ∨ k = w.heap.size := fun k hk => hk.imp (fun h => HOB.out k (.inl h)) id
  have ho2 : Only (fun k => p.own k ∨ k = w.heap.size) w w2 := (HO1.out.mono (fun _ _ h => h.elim)).trans HON.out
  have hbo : IsBlock w2 ob [.slice va l.length vc] := ho2.isBlock hvo (fun hk => by rcases hnin _ hk with h | h; exact h.2 rfl; omega)
  have hrw : w2.ownsRow base 92 13 (.slice va l.length vc) l.length (hRow l) := ho2.ownsRow hro (fun k hk hs => by
    have := hro.lt k hk
    rcases hnin _ hs with h | h
    · omega
    · omega)
  have m5 : w2.cell? ⟨w.heap.size, 5, none⟩ = some (.pointer (some ⟨q.g, 0, none⟩)) := HOU.out.cell rfl
  have o0 : w2.cell? ⟨ob, 0, none⟩ = some (.slice va l.length vc) := hbo.cell rfl
  have HBM : Hid (∀ x ∈ bl, x.mark = .pointer none) := Lib.hid (by
    intro x hx
    have h : (x.cum, x.up, x.mark) ∈ bl.map (fun x => (x.cum, x.up, x.mark)) := List.mem_map_of_mem hx
    rw [HV.out] at h
    obtain ⟨i, _, hi⟩ := List.mem_map.1 h
    have h3 : x.mark = markPtr (mk s.marks i) := by have := congrArg (fun y => y.2.2) hi; exact this.symm
    rw [h3]
    have : mk s.marks i = .nilIface := by
      rcases Nat.lt_or_ge i s.marks.length with h | h
      · exact HMK.out _ (List.mem_of_getElem? (getD_mk h))
      · unfold mk; rw [List.getD_eq_getElem?_getD, List.getElem?_eq_none h]; rfl
    rw [this]; rfl)
  have HBL : Hid (bl.length = s.bounds.length) := Lib.hid (by have := congrArg List.length HV.out; simpa using this)
  have HBO := Lib.hid hbo
  have HVO := Lib.hid hvo
  have HRO := Lib.hid hro
  have HRW := Lib.hid hrw
  have HO2 := Lib.hid ho2
  have hbm := HBL.out
  have HLL : Hid (bl.length ≤ 1048577) := Lib.hid (by omega)
  have hno : ¬ ob = w.heap.size := by omega
  have hne : (⟨ob, 0, none⟩ : Addr) ≠ ⟨w.heap.size, 5, none⟩ := fun h => hno (congrArg Addr.block h)
  clear hbo hrw ho2 hvo hro hvs hnin hbm
  go_region_law
    (first
      | (refine step_append_lies _ (by rfl) _ _ _ (by rfl) base 92 i0 _ 13 192 Tryz.underlying66 hi hz0 hz1 hz2 rfl (by omega) (.slice va l.length vc) l.length (hRow l) (by rfl) ((ho3.ownsRow HRW.out (fun _ _ => id)).alloc _) ⟨w3.heap.size, 0, none⟩ 1 1 (hVals s.n (s.c s.hot).sum (.slice v3 bl.length c3) s.last) (by rfl) (by rfl) (cells_of (IsBlock.new w3 (hVals s.n (s.c s.hot).sum (.slice v3 bl.length c3) s.last) 92)) (one_hVals _ _ _ _ _ _) (by omega) (by unfold maxLen; omega) (by omega) (by rw [World.size_alloc]; have h3 : w2.heap.size ≤ w3.heap.size := ho3.size; have := HO2.out.size; omega) (w3.heap.size + 1) (by simp) ?_; intro g4 c4 w4 hown4 hgr4 hat4 hlt4; have hb4 := IsBlock.grown (IsBlock.alloc (ho3.isBlock HBO.out.drew id) _) hgr4 (fun e => (by have := (HRW.out.lt _ e).1; omega)); have o04 := hb4.cell (i := 0) rfl; have fo4 := hb4.free 0)
      | (go_simp; go_at_call 56; refine (histOf_lit q bl s.n (s.c s.hot).sum s.last _ _ (HD.out.mono (Only.refl (fun _ => False) w2).drew (fun _ h => h.elim)) HBM.out HLL.out).mono ?_; rintro e w3 ⟨v3, c3, rfl, hown3, ho3⟩; have m53 := (ho3.isBlock HOU.out.drew id).cell (i := 5) rfl; have o03 := (ho3.isBlock HBO.out.drew id).cell (i := 0) rfl; have fo3 := (ho3.isBlock HBO.out.drew id).free 0; have lt3 := (ho3.isBlock HBO.out.drew id).lt))
  all_goals
    have HF : Hid (∃ (r : Nat) (h : HRec), AddTo 0 (s.c s.hot).sum r ∧ HIn (w4.setCell ⟨ob, 0, none⟩ (.slice (some ⟨g4, 0, none⟩) (l.length + 1) c4)) p (s.wrote r) ∧ OIn (w4.setCell ⟨ob, 0, none⟩ (.slice (some ⟨g4, 0, none⟩) (l.length + 1) c4)) base ob (l ++ [h]) ∧ h.cnt = s.n ∧ h.sum = (s.c s.hot).sum ∧ h.created = s.last ∧
        h.bks.map (fun x => (x.cum, x.up, x.mark)) = (List.range s.bounds.length).map (bVal (s.c s.hot).bk s.bounds s.marks) ∧ Only (fun k => p.own k ∨ k = ob ∨ base ≤ k ∧ Is92 w k) w (w4.setCell ⟨ob, 0, none⟩ (.slice (some ⟨g4, 0, none⟩) (l.length + 1) c4))) := Lib.hid (by
      have h3 : Only (fun _ => False) w2 w3 := (Only.refl _ w2).drew.trans ho3
      have h34 : Only (fun k => (Value.slice va l.length vc).ownBlock = some k ∨ k = ob) w3 (w4.setCell ⟨ob, 0, none⟩ (.slice (some ⟨g4, 0, none⟩) (l.length + 1) c4)) := (((Only.refl _ w3).alloc _).trans ((Only.grown hgr4).mono (fun _ _ h => .inl h))).setCell (p := ⟨ob, 0, none⟩) (.inl (.inr rfl)) _
      have hrowb : ∀ k, (Value.slice va l.length vc).ownBlock = some k → base ≤ k := fun k hk => (HRW.out.lt k hk).1
      refine ⟨r, ⟨s.n, (s.c s.hot).sum, .slice v3 bl.length c3, s.last, bl⟩, HADD.out, ?_, oin_close (m := w.heap.size) HO.out HVO.out HRO.out HO2.out (fun k hk => HOB.out k (.inl hk)) (Nat.le_refl _) hbw h3 hown3 rfl hown4 hgr4, rfl, rfl, rfl, HV.out, ?_⟩
      · refine (HIN.out.mono h3 (fun _ _ h => h)).mono h34 (fun k hk hs => ?_)
        have h1 := HOB.out k hk.symm
        rcases hs with h | h
        · have := hrowb k h; omega
        · exact h1.2 h
      · refine ((HO2.out.mono (T := fun k => p.own k ∨ k = ob ∨ base ≤ k ∧ Is92 w k) (fun k hk h => h.imp id (fun h => (by omega : False).elim))).trans (h3.mono (fun _ _ h => h.elim))).trans (h34.mono (fun k _ h => ?_))
        rcases h with h | h
        · exact .inr (.inr ⟨hrowb k h, is92_of HRO.out h⟩)
        · exact .inr (.inl h))
    clear hown3 ho3 m53 o03 fo3 lt3 hown4 hgr4 hat4 hlt4 hb4 o04 fo4
    go_wp2_with fail
    go_end0
    exact ⟨rfl, HF.out⟩
end Go.Proofs.YtebjclmbacmilaaGreatDoor
