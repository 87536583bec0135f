/- histsFrom, histRun, histObserve of native histograms: the factor 2, no bounds. Conditions: as stated. FnHistDefaults: three runs. Conditions: as stated. -/
import Derived.Test.YtebjclmbacmilaaGreatDoorNx
import Derived.Test.YtebjclmbacmilaaGreatDoorxHz
import Derived.Test.YtebjclmbacmilaaGreatDoorxOd
import Derived.Test.YtebjclmbacmilaaGreatDoorLi
namespace Go.Proofs.YtebjclmbacmilaaGreatDoor
open Go.RowKit

/-- What a written native histogram's cells hold, of whatever schema. -/
def nRow (l : List (NRec × Int)) : List Value := l.flatMap fun x => nVals x.1 x.2
def nsC (x : (NRec × Int) × NOut) : List Value := nOut x.1.1 x.1.2 x.2
theorem one_nOut (R : NRec) (sch : Int) (o : NOut) : ∀ u ∈ nOut R sch o, u.oneCell' = true := by
  intro u hu
  simp only [nOut, List.mem_cons, List.mem_nil_iff, or_false] at hu
  rcases hu with rfl | rfl | rfl | rfl | rfl | rfl | rfl | rfl | rfl | rfl | rfl | rfl | rfl <;> rfl
/-- Between two rounds. -/
structure NsRel (w : World) (ns : List (NRec × Int)) (k : Nat) (v : Value) (rs : List ((NRec × Int) × NOut)) (wr : World) : Prop where
  own : wr.ownsRow w.heap.size 36 13 v k (rs.flatMap nsC)
  rows : ∀ x ∈ rs, NOutIn wr w.heap.size x.1.1 x.2
  told : rs.map Prod.fst = ns.take k
  only : Only (fun _ => False) w wr
theorem ns_step {w w6 w8 : World} {ns : List (NRec × Int)} {k : Nat} {ta : Option Addr} {tc : Nat} {rs : List ((NRec × Int) × NOut)} {wr : World} {R : NRec} {sch : Int} {o : NOut} {ob : Obj} {v8 : Value} (H : NsRel w ns k (.slice ta k tc) rs wr) (hk : k < ns.length) (he : (R, sch) = ns[k])
    (h6 : Only (fun _ => False) wr w6) (hq : NOutIn w6 wr.heap.size R o)
    (hown : w8.ownsRow w.heap.size 36 13 v8 (k + 1) (rs.flatMap nsC ++ nOut R sch o)) (hg : (w6.alloc ob).grownBy w8 (Value.slice ta k tc).ownBlock) : NsRel w ns (k + 1) v8 (rs ++ [((R, sch), o)]) w8 := by
  have hon : Only (fun j => (Value.slice ta k tc).ownBlock = some j) w6 w8 := ((Only.refl _ w6).alloc _).trans (Only.grown hg)
  have hown6 : w6.ownsRow w.heap.size 36 13 (.slice ta k tc) k (rs.flatMap nsC) := h6.ownsRow H.own (fun _ _ => id)
  have ap1 : ∀ {b e s n : Nat} {q : Value} {xs : List Value}, 36 ≠ e → w6.ownsRow b e s q n xs → w8.ownsRow b e s q n xs := fun hne hx => hon.ownsRow hx (fun j hj hs' => ownsRow_apart hown6 hx hne j hs' hj)
  have ap : ∀ {b : Nat} {R : NRec} {o : NOut}, NOutIn w6 b R o → NOutIn w8 b R o := fun hx => ⟨ap1 (by decide) hx.q, ap1 (by decide) hx.rn, ap1 (by decide) hx.rp, ap1 (by decide) hx.dn, ap1 (by decide) hx.dp⟩
  refine ⟨?_, fun x hx => ?_, ?_, ?_⟩
  · rw [List.flatMap_append]
    simpa [nsC] using hown
  · rcases List.mem_append.1 hx with hx | hx
    · exact ap ((H.rows x hx).kept h6 (fun _ h => h.elim))
    · rw [List.mem_singleton.1 hx]
      exact (ap hq).lower H.only.size
  · rw [List.map_append, H.told, List.take_succ_eq_append_getElem hk, ← he]
    rfl
  · exact Only.widen (H.only.trans h6) hon (fun j hj => (hown6.lt j hj).1)

set_option maxRecDepth 100000 in
set_option maxHeartbeats 1600000 in
theorem histsFrom_nat (v : Value) (ns : List (NRec × Int)) (B B2 : Nat) (w : World) (hrow : w.ownsRow B 92 13 v ns.length (nRow ns)) (hbk : ∀ x ∈ ns, NRIn w B2 x.1) (hlen : ns.length ≤ 4194304) :
    Calls Tryz.prog 40 #[v] w fun e w' => ∃ v' rs, e = .returned v' ∧ NsRel w ns ns.length v' rs w' := by
  obtain ⟨i36, hi, hz0, hz1, hz2⟩ := info_parts info36
  obtain ⟨la, lc, rfl⟩ := ownsRow_slice hrow
  have hlen' : (ns.length : Int) ≤ 4194304 := by omega
  have HROW := Lib.hid hrow
  have HBK := Lib.hid hbk
  clear hrow hbk
  go_enter Tryz.func40, Tryz.ntmps40
  go_wp2_with fail
  go_loopw [3, 4] (fun v i wr => ∃ (k : Nat) (rs : List ((NRec × Int) × NOut)), k ≤ ns.length ∧ i = .int .i64 k ∧ NsRel w ns k v rs wr) (fun _ i _ => ns.length - (intOf i).toNat)
  case atStart => exact ⟨0, [], Nat.zero_le _, rfl, World.ownsRow_nil _ _ _ _, fun r hr => by simp at hr, rfl, Only.refl _ _⟩
  case round =>
    obtain ⟨k, rs, hk, rfl, hR⟩ := hrel
    obtain ⟨ta, tc, rfl⟩ := ownsRow_slice hR.own
    have HR := Lib.hid hR
    clear hR
    by_cases hkn : k < ns.length
    · have hk0 : (0 : Int) ≤ (k : Int) := by omega
      have hk1 : (k : Int) < (ns.length : Int) := by omega
      obtain ⟨g, rfl, hcells⟩ := row_cells (cl := nVals ns[k].1 ns[k].2) HROW.out hkn HR.out.only (fun j hj => flat_get (fun x : NRec × Int => nVals x.1 x.2) 13 (fun _ => rfl) ns k j hkn hj)
      obtain ⟨R, sch, hx⟩ : ∃ R sch, (R, sch) = ns[k] := ⟨_, _, rfl⟩
      have hmem : (R, sch) ∈ ns := by rw [hx]; exact List.getElem_mem hkn
      rw [← hx] at hcells
      have HXB := Lib.hid ((HBK.out _ hmem).kept HR.out.only (fun _ h => h.elim))
      have k0 : wr.cell? ⟨g, k * 13, none⟩ = some (.int .u64 R.cnt) := hcells 0 _ rfl
      have k1 : wr.cell? ⟨g, k * 13 + 1, none⟩ = some (.float .f64 R.sum) := hcells 1 _ rfl
      have k2 : wr.cell? ⟨g, k * 13 + 2, none⟩ = some (.slice none 0 0) := hcells 2 _ rfl
      have k3 : wr.cell? ⟨g, k * 13 + 3, none⟩ = some (.int .i64 R.created) := hcells 3 _ rfl
      have k4 : wr.cell? ⟨g, k * 13 + 4, none⟩ = some (.bool true) := hcells 4 _ rfl
      have k5 : wr.cell? ⟨g, k * 13 + 5, none⟩ = some (.int .i32 sch) := hcells 5 _ rfl
      have k6 : wr.cell? ⟨g, k * 13 + 6, none⟩ = some (.float .f64 R.zt) := hcells 6 _ rfl
      have k7 : wr.cell? ⟨g, k * 13 + 7, none⟩ = some (.int .u64 R.zc) := hcells 7 _ rfl
      have k8 : wr.cell? ⟨g, k * 13 + 8, none⟩ = some (.slice R.a1 R.Ln.length R.c1) := hcells 8 _ rfl
      have k9 : wr.cell? ⟨g, k * 13 + 9, none⟩ = some (.slice R.a2 R.Lp.length R.c2) := hcells 9 _ rfl
      have k10 : wr.cell? ⟨g, k * 13 + 10, none⟩ = some (.slice R.a3 R.tn.length R.c3) := hcells 10 _ rfl
      have k11 : wr.cell? ⟨g, k * 13 + 11, none⟩ = some (.slice R.a4 R.tp.length R.c4) := hcells 11 _ rfl
      have k12 : wr.cell? ⟨g, k * 13 + 12, none⟩ = some (.slice none 0 0) := hcells 12 _ rfl
      have HX := Lib.hid hx
      clear hcells hx hmem
      go_wp2_with fail
      refine (histFrom_nat R sch _ wr HXB.out).mono ?_
      rintro e w6 ⟨o, rfl, hq6, ho6⟩
      have HQ6 := Lib.hid hq6
      have HO6 := Lib.hid ho6
      have h6 := ho6.ownsRow HR.out.own (fun _ _ => id)
      have hc6 : (nOut R sch o).toArray = #[.int .u64 R.cnt, .float .f64 R.sum, .slice o.qa 0 o.qc, .int .i64 R.created, .bool true, .int .i32 sch, .float .f64 R.zt, .int .u64 R.zc, .slice o.a1 R.Ln.length o.c1, .slice o.a2 R.Lp.length o.c2, .slice o.a3 R.tn.length o.c3, .slice o.a4 R.tp.length o.c4, .slice none 0 0] := rfl
      rw [hc6]
      clear ho6 hq6 hc6 k0 k1 k2 k3 k4 k5 k6 k7 k8 k9 k10 k11 k12
      go_wp2_with (at_builtin; go_must (refine wpList_append_own _ rfl _ _ 49 rfl w.heap.size 36 i36 _ 13 192 Tryz.underlying49 hi hz0 hz1 hz2 rfl (by decide) _ _ _ rfl (h6.alloc _) ⟨w6.heap.size, 0, none⟩ 1 1 (nOut R sch o) rfl rfl (cells_of (IsBlock.new w6 (nOut R sch o) 36)) (one_nOut R sch o) ?c3 ?c4 ?c5 ?_))
      case c3 => unfold maxLen; omega
      case c4 => omega
      case c5 => have := HR.out.only.size; have := HO6.out.size; rw [World.size_alloc]; omega
      intro v8 w8 hown8 hgr8 _
      have HNX : Hid (NsRel w ns (k + 1) v8 (rs ++ [((R, sch), o)]) w8) := Lib.hid (ns_step HR.out hkn HX.out HO6.out HQ6.out hown8 hgr8)
      clear hown8 hgr8 h6
      go_wp2_with fail
      go_roundw
      case rel => exact ⟨k + 1, _, hkn, by go_num, HNX.out⟩
      case measure => simp [intOf]; omega
    · have hke : k = ns.length := by omega
      subst hke
      have hk1 : ¬ (ns.length : Int) < (ns.length : Int) := by omega
      clear hkn hk
      go_wp2_with fail
      go_ret
      exact ⟨_, rfl, rs, HR.out⟩

set_option maxRecDepth 100000 in
set_option maxHeartbeats 1600000 in
theorem lawRun_nat (t0 : Int) (la : Option Addr) (lc : Nat) (steps : List SD) (B : Nat) (gs : Addr) (gc n : Nat) (w : World)
    (hg : w.cell? ⟨2, 0, none⟩ = some (.slice (some gs) 1 gc)) (hgs : w.cell? gs = some (.int .u8 255))
    (hst : w.ownsRow B 63 4 (.slice la steps.length lc) steps.length (sRow steps)) (hsl : steps.length ≤ 4194304) (hn : steps.length = n + 1) (hobs : ∀ i (h : i < steps.length), i < n → (steps[i]).kind = 0 ∧ (steps[i]).value < 18446744073709551616) (hlast : ∀ (h : n < steps.length), (steps[n]).kind = 2) (hnl : ∀ x ∈ steps, Value.slice x.la x.ln x.lc = .slice none 0 0) :
    Calls Tryz.prog 19 #[.agg #[.slice none 0 0, .float .f64 4611686018427387904, .float .f64 0, .int .u32 0, .int .i64 0, .float .f64 0, .int .i64 0, .int .i64 0], .int .i64 t0, .slice la steps.length lc] w fun e w' => ∃ (g c : Nat) (R : NRec) (o : NOut), e = .returned (.tuple #[.slice (some ⟨g, 0, none⟩) 1 c, .bool true]) ∧
      w'.ownsRow w.heap.size 36 13 (.slice (some ⟨g, 0, none⟩) 1 c) 1 (nOut R 0 o) ∧ NOutIn w' w.heap.size R o ∧ Only (fun _ => False) w w' := by
  have HG := Lib.hid hg
  have HGS := Lib.hid hgs
  have HST := Lib.hid hst
  have HSL := Lib.hid hsl
  have HN := Lib.hid hn
  have HOBS := Lib.hid hobs
  have HLAST := Lib.hid hlast
  have HNL := Lib.hid hnl
  clear hg hgs hst hsl hn hobs hlast hnl
  go_enter Tryz.func19, Tryz.ntmps19
  go_wp2_with fail
  refine (?_ : ∀ w2, w2 = w.alloc (.cells (sVals (.slice none 0 0) 4611686018427387904 0 0 0 0 0 0).toArray 28) → Calls Tryz.prog 38 _ w2 _) _ rfl
  intro w2 hw2
  have HO2 : Hid (Only (fun _ => False) w w2) := Lib.hid (by rw [hw2]; exact (Only.refl _ w).alloc _)
  clear hw2
  refine (setupTo_plain (.slice none 0 0) 4611686018427387904 0 0 0 0 0 0 [] w2 (.inl ⟨rfl, rfl, rfl⟩) (by decide)).mono ?_
  rintro e w3 ⟨ba, bc, rfl, hr3, ho3⟩
  have HR3 := Lib.hid hr3
  have HO3 := Lib.hid (HO2.out.trans ho3)
  clear hr3 ho3
  simp only [List.length_nil]
  go_wp2_with fail
  refine (stepsTo_plain la lc steps B w3 (HO3.out.ownsRow HST.out (fun _ _ => id)) HSL.out HNL.out).mono ?_
  rintro e w4 ⟨sv, rfl, hr4, ho4⟩
  obtain ⟨ta, tc, rfl⟩ := ownsRow_slice hr4
  have HR4 := Lib.hid hr4
  have HO4 := Lib.hid (HO3.out.trans ho4)
  have HS4 : Hid (SrcIs w4 (.slice ba 0 bc) 1 0 []) := Lib.hid (src_of_owns (ho4.ownsRow HR3.out (fun _ _ => id)))
  clear hr4 ho4
  go_wp2_with fail
  refine (histRun_nat ba bc t0 ta tc steps w3.heap.size gs gc n w4 (HO4.out.cell HG.out id) (HO4.out.cell HGS.out id) HS4.out HR4.out HSL.out HN.out HOBS.out HLAST.out).mono ?_
  rintro e w5 ⟨g, c, R, vt, rfl, hr5, hin5, ht5, ho5⟩
  obtain ⟨ua, uc, rfl⟩ := ownsRow_slice ht5
  have HR5 : Hid (w5.ownsRow w4.heap.size 92 13 (.slice (some ⟨g, 0, none⟩) 1 c) [(R, (0 : Int))].length (nRow [(R, 0)])) := Lib.hid hr5
  have HIN5 := Lib.hid hin5
  have HO5 := Lib.hid (HO4.out.trans ho5)
  clear hr5 hin5 ht5 ho5
  go_wp2_with fail
  refine (histsFrom_nat _ [(R, 0)] w4.heap.size w4.heap.size w5 HR5.out (fun x hx => by rw [List.mem_singleton.1 hx]; exact HIN5.out) (by show 1 ≤ 4194304; decide)).mono ?_
  rintro e w6 ⟨v6, rs, rfl, hR⟩
  have htold : rs.map Prod.fst = [(R, 0)] := hR.told
  obtain ⟨⟨x, o⟩, rfl⟩ : ∃ x, rs = [x] := List.length_eq_one_iff.1 (by have := congrArg List.length htold; simpa using this)
  have hx : x = (R, 0) := by simpa using htold
  subst hx
  have hown : w6.ownsRow w5.heap.size 36 13 v6 1 (nOut R 0 o) := by have := hR.own; simpa [nsC] using this
  obtain ⟨g6, c6, rfl⟩ : ∃ g c, v6 = .slice (some ⟨g, 0, none⟩) 1 c := by
    rcases hown.2 with ⟨_, h0⟩ | ⟨g, cap, cur, hv, _⟩
    · omega
    · exact ⟨g, cap, hv⟩
  have HFN : Hid (w6.ownsRow w.heap.size 36 13 (.slice (some ⟨g6, 0, none⟩) 1 c6) 1 (nOut R 0 o) ∧ NOutIn w6 w.heap.size R o ∧ Only (fun _ => False) w w6) := Lib.hid
    ⟨ownsRow_lower hown HO5.out.size, (hR.rows _ (List.mem_singleton.2 rfl)).lower HO5.out.size, HO5.out.trans hR.only⟩
  clear hR hown htold
  go_wp2_with fail
  go_ret2
  exact ⟨g6, c6, R, o, rfl, HFN.out⟩

theorem ob_call_nat (ra : Option Addr) (rc : Nat) (l : List Nat) (B : Nat) (gs : Addr) (gc : Nat) (w : World)
    (hg : w.cell? ⟨2, 0, none⟩ = some (.slice (some gs) 1 gc)) (hgs : w.cell? gs = some (.int .u8 255))
    (hst : w.ownsRow B 63 4 (.slice ra (l.length + 1) rc) (l.length + 1) (sRow (obRow l) ++ sCl wrS)) (hl : l.length ≤ 2097152) (hw : ∀ x ∈ l, x < 18446744073709551616) :
    Calls Tryz.prog 19 #[.agg #[.slice none 0 0, .float .f64 4611686018427387904, .float .f64 0, .int .u32 0, .int .i64 0, .float .f64 0, .int .i64 0, .int .i64 0], .int .i64 0, .slice ra (l.length + 1) rc] w fun e w' => ∃ (g c : Nat) (R : NRec) (o : NOut), e = .returned (.tuple #[.slice (some ⟨g, 0, none⟩) 1 c, .bool true]) ∧
      (∀ j u, (nOut R 0 o)[j]? = some u → w'.cell? ⟨g, j, none⟩ = some u) ∧ NOutIn w' w.heap.size R o ∧ Only (fun _ => False) w w' := by
  have hln := len_ob l
  have hrow : sRow (obRow l ++ [wrS]) = sRow (obRow l) ++ sCl wrS := by unfold sRow; rw [List.flatMap_append]; simp
  have h := lawRun_nat 0 ra rc (obRow l ++ [wrS]) B gs gc l.length w hg hgs (by rw [hln, hrow]; exact hst) (by omega) hln (fun i h hi => by
    have hi' : i < (obRow l).length := by unfold obRow; rw [List.length_map]; exact hi
    rw [List.getElem_append_left hi']
    obtain ⟨y, hy, e⟩ := List.mem_map.1 (List.getElem_mem hi')
    rw [← e]
    exact ⟨rfl, hw y hy⟩) (fun h => by
    have e : (obRow l).length = l.length := by unfold obRow; rw [List.length_map]
    rw [List.getElem_append_right (by omega)]
    simp [e, wrS]) (labels_ob l)
  rw [hln] at h
  refine h.mono ?_
  rintro e w' ⟨g, c, R, o, rfl, hr, ho, hon⟩
  refine ⟨g, c, R, o, rfl, fun j u hj => ?_, ho, hon⟩
  have := hr.cells (g := g) rfl j u hj
  have e : (⟨g, 0, none⟩ : Addr).add j = ⟨g, j, none⟩ := by unfold Addr.add; split <;> simp_all
  rwa [e] at this

set_option maxRecDepth 100000 in
set_option maxHeartbeats 3200000 in
theorem histObserve_nat (la : Option Addr) (lc : Nat) (l : List Nat) (gs : Addr) (gc : Nat) (w : World)
    (hg : w.cell? ⟨2, 0, none⟩ = some (.slice (some gs) 1 gc)) (hgs : w.cell? gs = some (.int .u8 255))
    (hc : InCells w la l) (hl : l.length ≤ 2097152) (hv : ∀ x ∈ l, x < 18446744073709551616) :
    Calls Tryz.prog 15 #[.agg #[.slice none 0 0, .float .f64 4611686018427387904, .float .f64 0, .int .u32 0, .int .i64 0, .float .f64 0, .int .i64 0, .int .i64 0], .slice la l.length lc] w fun e w' => ∃ (R : NRec) (o : NOut), e = .returned (.tuple #[.agg (nOut R 0 o).toArray, .bool true]) ∧ NOutIn w' w.heap.size R o ∧ Only (fun _ => False) w w' := by
  obtain ⟨i63, hi, hz0, hz1, hz2⟩ := info_parts info63
  have hl' : (l.length : Int) ≤ 2097152 := by omega
  have HG := Lib.hid hg
  have HGS := Lib.hid hgs
  have HVL := Lib.hid hv
  have HC := Lib.hid hc
  clear hg hgs hv hc
  have hB : IsBlock ((w.alloc (.cells (sVals (.slice none 0 0) 4611686018427387904 0 0 0 0 0 0).toArray 28)).alloc (.cells (hVals 0 0 (.slice none 0 0) 0).toArray 36)) w.heap.size (sVals (.slice none 0 0) 4611686018427387904 0 0 0 0 0 0) := (IsBlock.new w _ 28).alloc _
  have hR : IsBlock ((w.alloc (.cells (sVals (.slice none 0 0) 4611686018427387904 0 0 0 0 0 0).toArray 28)).alloc (.cells (hVals 0 0 (.slice none 0 0) 0).toArray 36)) (w.heap.size + 1) (hVals 0 0 (.slice none 0 0) 0) := blk_new _ _ _ _ (World.size_alloc _ _).symm
  have hO : Only (fun _ => False) w ((w.alloc (.cells (sVals (.slice none 0 0) 4611686018427387904 0 0 0 0 0 0).toArray 28)).alloc (.cells (hVals 0 0 (.slice none 0 0) 0).toArray 36)) := ((Only.refl _ w).alloc _).alloc _
  go_enter Tryz.func15, Tryz.ntmps15
  go_wp2_with fail
  refine (?_ : ∀ w2, w2 = (w.alloc (.cells (sVals (.slice none 0 0) 4611686018427387904 0 0 0 0 0 0).toArray 28)).alloc (.cells (hVals 0 0 (.slice none 0 0) 0).toArray 36) → Code.wp _ _ _ _ w2) _ rfl
  intro w2 hw2
  have HSZ : Hid (w2.heap.size = w.heap.size + 2) := Lib.hid (by rw [hw2]; simp)
  rw [← hw2] at hB hR hO
  have HB2 := Lib.hid hB
  have HR2 := Lib.hid hR
  have HO2 := Lib.hid hO
  clear hw2 hB hR hO
  go_loopw [6, 7] (fun v i wr => ∃ (k : Nat), k ≤ l.length ∧ i = .int .i64 k ∧ ObRel w2 l k v wr) (fun _ i _ => l.length - (intOf i).toNat)
  case atStart => exact ⟨0, Nat.zero_le _, rfl, World.ownsRow_nil _ _ _ _, Only.refl _ _⟩
  case round =>
    obtain ⟨k, hk, rfl, hRel⟩ := hrel
    obtain ⟨ta, tc, rfl⟩ := ownsRow_slice hRel.own
    have HREL := Lib.hid hRel
    clear hRel
    by_cases hkn : k < l.length
    · have hk0 : (0 : Int) ≤ (k : Int) := by omega
      have hk1 : (k : Int) < (l.length : Int) := by omega
      obtain ⟨b, off, rfl, hcell⟩ := HC.out k hkn
      have hx : wr.cell? ⟨b, off + k, none⟩ = some (.float .f64 (wd l k)) := HREL.out.only.cell (HO2.out.cell hcell id) id
      obtain ⟨x, hxe⟩ : ∃ x, x = wd l k := ⟨_, rfl⟩
      rw [← hxe] at hx
      have HX := Lib.hid hxe
      clear hcell hk hxe
      go_wp2_with (at_builtin; go_must (refine wpList_append_own _ rfl _ _ 46 rfl w2.heap.size 63 i63 _ 4 48 Tryz.underlying46 hi hz0 hz1 hz2 rfl (by decide) _ _ _ rfl (HREL.out.own.alloc _) ⟨wr.heap.size, 0, none⟩ 1 1 (sCl (obS x)) rfl rfl (cells_of (IsBlock.new wr (sCl (obS x)) 63)) (one_sCl _) ?c3 ?c4 ?c5 ?_))
      case c3 => unfold maxLen; omega
      case c4 => omega
      case c5 => have := HREL.out.only.size; rw [World.size_alloc]; omega
      intro v8 w8 hown8 hgr8 _
      have HNX : Hid (ObRel w2 l (k + 1) v8 w8) := Lib.hid (obRel_step HREL.out hkn (by rw [← HX.out]; exact hown8) hgr8)
      clear hown8 hgr8
      go_wp2_with fail
      go_roundw
      case rel => exact ⟨k + 1, hkn, by go_num, HNX.out⟩
      case measure => simp [intOf]; omega
    · have hke : k = l.length := by omega
      subst hke
      have hk1 : ¬ (l.length : Int) < (l.length : Int) := by omega
      clear hkn hk
      have hown : wr.ownsRow w2.heap.size 63 4 (.slice ta l.length tc) l.length (sRow (obRow l)) := by have := HREL.out.own; rwa [List.take_of_length_le (Nat.le_refl _)] at this
      have hB := HREL.out.only.isBlock HB2.out id
      have hRz := HREL.out.only.isBlock HR2.out id
      have hON := HO2.out.trans HREL.out.only
      have hzz : w2.heap.size ≤ wr.heap.size := HREL.out.only.size
      have HM : Hid (((wr.alloc (.cells (sCl wrS).toArray 63)).drew).ownsRow w2.heap.size 63 4 (.slice ta l.length tc) l.length (sRow (obRow l))) := Lib.hid (show (wr.alloc (.cells (sCl wrS).toArray 63)).ownsRow w2.heap.size 63 4 (.slice ta l.length tc) l.length (sRow (obRow l)) from hown.alloc _)
      have HSR : Hid (SrcIs ((wr.alloc (.cells (sCl wrS).toArray 63)).drew) (.slice (some ⟨wr.heap.size, 0, none⟩) 1 1) 4 1 (sCl wrS)) := Lib.hid (.inr ⟨_, _, rfl, rfl, cells_of (IsBlock.new wr (sCl wrS) 63).drew⟩)
      have HZ1 : Hid (w2.heap.size ≤ ((wr.alloc (.cells (sCl wrS).toArray 63)).drew).heap.size) := Lib.hid (show w2.heap.size ≤ (wr.alloc (.cells (sCl wrS).toArray 63)).heap.size by rw [World.size_alloc]; omega)
      have HOA : Hid (Only (fun _ => False) w ((wr.alloc (.cells (sCl wrS).toArray 63)).drew)) := Lib.hid ((hON.alloc _).drew)
      have HBA : Hid (IsBlock ((wr.alloc (.cells (sCl wrS).toArray 63)).drew) w.heap.size (sVals (.slice none 0 0) 4611686018427387904 0 0 0 0 0 0)) := Lib.hid (hB.alloc _).drew
      have HRA : Hid (IsBlock ((wr.alloc (.cells (sCl wrS).toArray 63)).drew) (w.heap.size + 1) (hVals 0 0 (.slice none 0 0) 0)) := Lib.hid (hRz.alloc _).drew
      have HOWN := Lib.hid hown
      have hc8 := cells8 hB
      clear hown hRz hON hzz
      have hlt : w.heap.size < w.heap.size + 1 := Nat.lt_succ_self _
      go_upto_region 6 with fail
      go_region_held3 (fun wx => wx.cell? ⟨w.heap.size, 0, none⟩ = some (.slice none 0 0) ∧ wx.cell? ⟨w.heap.size, 1, none⟩ = some (.float .f64 4611686018427387904) ∧ wx.cell? ⟨w.heap.size, 2, none⟩ = some (.float .f64 0) ∧ wx.cell? ⟨w.heap.size, 3, none⟩ = some (.int .u32 0) ∧ wx.cell? ⟨w.heap.size, 4, none⟩ = some (.int .i64 0) ∧ wx.cell? ⟨w.heap.size, 5, none⟩ = some (.float .f64 0) ∧ wx.cell? ⟨w.heap.size, 6, none⟩ = some (.int .i64 0) ∧ wx.cell? ⟨w.heap.size, 7, none⟩ = some (.int .i64 0))
        ((refine cells8 ?_; with_reducible (repeat (first | assumption | apply IsBlock.drew | apply IsBlock.alloc | (refine IsBlock.set_ne ?_ (Nat.ne_of_lt hlt) _)))))
        (first
          | (refine step_append_src _ (by rfl) _ _ _ (by rfl) w2.heap.size 63 i63 _ 4 48 Tryz.underlying46 hi hz0 hz1 hz2 rfl (by omega) (.slice ta l.length tc) l.length (sRow (obRow l)) (by rfl) HM.out (.slice (some ⟨wr.heap.size, 0, none⟩) 1 1) 1 (sCl wrS) (by rfl) HSR.out (one_sCl _) (by unfold maxLen; omega) (by omega) HZ1.out ?_
             intro v3 w3 hown3 hgr3 hnil3
             obtain ⟨ra, rc, rfl⟩ := ownsRow_slice hown3
             have hon3 := Only.grown hgr3
             have hge : ∀ j, (Value.slice ta l.length tc).ownBlock = some j → w.heap.size + 2 ≤ j := fun j hj => by have := (HM.out.lt j hj).1; have := HSZ.out; omega
             have hB3 := hon3.isBlock HBA.out (fun e => by have := hge _ e; omega)
             have HR3 := Lib.hid (hon3.isBlock HRA.out (fun e => by have := hge _ e; omega))
             have hO3 : Only (fun _ => False) w w3 := Only.widen HOA.out hon3 (fun j hj => by have := hge j hj; omega)
             have HCALL := Lib.hid (ob_call_nat ra rc l w2.heap.size gs gc w3 (hO3.cell HG.out id) (hO3.cell HGS.out id) hown3 hl HVL.out)
             have HO3 := Lib.hid hO3
             have HZ3 : Hid (w.heap.size + 2 ≤ w3.heap.size) := Lib.hid (by have h1 : w2.heap.size ≤ w3.heap.size := (Nat.le_trans HZ1.out hgr3.size); have := HSZ.out; omega)
             clear hown3 hgr3 hnil3 hon3 hge hO3)
          | (go_at_call 19
             refine HCALL.out.mono ?_
             rintro e w5 ⟨g, cap, R, o, rfl, hcell5, hrow5, hon5⟩
             have hrow5 := hrow5.lower (base' := w.heap.size + 2) (by have := HO3.out; have := HZ3.out; omega)
             have hB5 := hon5.isBlock hB3 id
             have hz5 := hon5.isBlock HR3.out id
             have HZ5 := Lib.hid hz5
             have HROW5 := Lib.hid hrow5
             have HO5 := Lib.hid (HO3.out.trans hon5)
             have HC5 := Lib.hid hcell5
             clear hcell5 hrow5 hz5 hon5))
      all_goals
        have zf := HZ5.out.free
        have d0 : w5.cell? ⟨g, 0, none⟩ = some (.int .u64 R.cnt) := HC5.out 0 _ rfl
        have d1 : w5.cell? ⟨g, 1, none⟩ = some (.float .f64 R.sum) := HC5.out 1 _ rfl
        have d2 : w5.cell? ⟨g, 2, none⟩ = some (.slice o.qa 0 o.qc) := HC5.out 2 _ rfl
        have d3 : w5.cell? ⟨g, 3, none⟩ = some (.int .i64 R.created) := HC5.out 3 _ rfl
        have d4 : w5.cell? ⟨g, 4, none⟩ = some (.bool true) := HC5.out 4 _ rfl
        have d5 : w5.cell? ⟨g, 5, none⟩ = some (.int .i32 0) := HC5.out 5 _ rfl
        have d6 : w5.cell? ⟨g, 6, none⟩ = some (.float .f64 R.zt) := HC5.out 6 _ rfl
        have d7 : w5.cell? ⟨g, 7, none⟩ = some (.int .u64 R.zc) := HC5.out 7 _ rfl
        have d8 : w5.cell? ⟨g, 8, none⟩ = some (.slice o.a1 R.Ln.length o.c1) := HC5.out 8 _ rfl
        have d9 : w5.cell? ⟨g, 9, none⟩ = some (.slice o.a2 R.Lp.length o.c2) := HC5.out 9 _ rfl
        have d10 : w5.cell? ⟨g, 10, none⟩ = some (.slice o.a3 R.tn.length o.c3) := HC5.out 10 _ rfl
        have d11 : w5.cell? ⟨g, 11, none⟩ = some (.slice o.a4 R.tp.length o.c4) := HC5.out 11 _ rfl
        have d12 : w5.cell? ⟨g, 12, none⟩ = some (.slice none 0 0) := HC5.out 12 _ rfl
        have z0 := HZ5.out.cell (i := 0) rfl
        have z1 := HZ5.out.cell (i := 1) rfl
        have z2 := HZ5.out.cell (i := 2) rfl
        have z3 := HZ5.out.cell (i := 3) rfl
        have z4 := HZ5.out.cell (i := 4) rfl
        have z5 := HZ5.out.cell (i := 5) rfl
        have z6 := HZ5.out.cell (i := 6) rfl
        have z7 := HZ5.out.cell (i := 7) rfl
        have z8 := HZ5.out.cell (i := 8) rfl
        have z9 := HZ5.out.cell (i := 9) rfl
        have z10 := HZ5.out.cell (i := 10) rfl
        have z11 := HZ5.out.cell (i := 11) rfl
        have z12 := HZ5.out.cell (i := 12) rfl
        go_wp2_with fail
        refine (?_ : ∀ w10, w10 = _ → bodyPost _ _ _ _ _ w10) _ rfl
        intro w10 h10
        have HB10 : IsBlock w10 (w.heap.size + 1) (nOut R 0 o) := by rw [h10]; exact stored_blk HZ5.out _ _ _ _ _ _ _ _ _ _ _ _ _
        have HON : Only (fun _ => False) w w10 := by rw [h10]; exact stored_only HO5.out (Nat.le_succ _) _ _ _ _ _ _ _ _ _ _ _ _ _
        have HOW : NOutIn w10 (w.heap.size + 2) R o := by rw [h10]; exact HROW5.out.kept (stored_one w5 _ _ _ _ _ _ _ _ _ _ _ _ _ _) (fun k e => by omega)
        clear h10 z0 z1 z2 z3 z4 z5 z6 z7 z8 z9 z10 z11 z12 zf d0 d1 d2 d3 d4 d5 d6 d7 d8 d9 d10 d11 d12
        have y0 := HB10.cell (i := 0) rfl
        have y1 := HB10.cell (i := 1) rfl
        have y2 := HB10.cell (i := 2) rfl
        have y3 := HB10.cell (i := 3) rfl
        have y4 := HB10.cell (i := 4) rfl
        have y5 := HB10.cell (i := 5) rfl
        have y6 := HB10.cell (i := 6) rfl
        have y7 := HB10.cell (i := 7) rfl
        have y8 := HB10.cell (i := 8) rfl
        have y9 := HB10.cell (i := 9) rfl
        have y10 := HB10.cell (i := 10) rfl
        have y11 := HB10.cell (i := 11) rfl
        have y12 := HB10.cell (i := 12) rfl
        exact bodyPost_ret (v := .tuple #[.agg (nOut R 0 o).toArray, .bool true]) (by simp [results, Tryz.results15, go_sem, y0, y1, y2, y3, y4, y5, y6, y7, y8, y9, y10, y11, y12, nOut]) rfl ⟨R, o, rfl, HOW.lower (by omega), HON⟩

end Go.Proofs.YtebjclmbacmilaaGreatDoor

namespace Go.Proofs.YtebjclmbacmilaaGreatDoor
open Go.RowKit

set_option maxRecDepth 100000 in
set_option maxHeartbeats 1600000 in
theorem fnDefaults_any (ba : Option Addr) (bc : Nat) (l : List Nat) (gs : Addr) (gc : Nat) (w : World)
    (hg : w.cell? ⟨2, 0, none⟩ = some (.slice (some gs) 1 gc)) (hgs : w.cell? gs = some (.int .u8 255))
    (hc : InCells w ba l) (hl : l.length ≤ 1048577) (hv : ∀ x ∈ l, x < 18446744073709551616) :
    Calls Tryz.prog 6 #[.slice ba l.length bc] w fun e w' => e = .returned (.bool true) ∧ Only (fun _ => False) w w' := by
  have hlen : ¬ (2147483647 : Int) < (l.length : Int) := by omega
  have HG := Lib.hid hg
  have HGS := Lib.hid hgs
  have HC := Lib.hid hc
  have HV := Lib.hid hv
  have HL := Lib.hid hl
  clear hg hgs hc hv hl
  have hdl : defBs.length = 11 := rfl
  go_enter Tryz.func6, Tryz.ntmps6
  go_wp2_with fail
  refine (observe_bk (.slice none 0 0) ba bc l gs gc [] defBs w HG.out HGS.out (.inl ⟨rfl, rfl, rfl⟩) (by decide) def_asc def_incr def_cut.symm HC.out (by have := HL.out; omega) (by decide)).mono ?_
  rintro e w1 ⟨s1, g1, q1, b1, b2, rfl, hs1, hk1, ho1⟩
  have HK1 := Lib.hid hk1
  have HS1 := Lib.hid hs1
  have HO1 := Lib.hid ho1
  clear hk1 hs1 ho1
  go_wp2_with fail
  refine (?_ : ∀ wa, wa = w1.alloc (.cells #[.int .u64 l.length, .float .f64 s1, .slice (some ⟨g1, 0, none⟩) 11 q1, .int .i64 0, .bool false, .int .i32 0, .float .f64 0, .int .u64 0, .slice none 0 0, .slice none 0 0, .slice (some ⟨b1, 0, none⟩) 0 0, .slice (some ⟨b2, 0, none⟩) 0 0, .slice none 0 0] 36) → Calls Tryz.prog 24 _ wa _) _ rfl
  intro wa hwa
  have HA : Hid (IsBlock wa w1.heap.size [.int .u64 l.length, .float .f64 s1, .slice (some ⟨g1, 0, none⟩) 11 q1, .int .i64 0, .bool false, .int .i32 0, .float .f64 0, .int .u64 0, .slice none 0 0, .slice none 0 0, .slice (some ⟨b1, 0, none⟩) 0 0, .slice (some ⟨b2, 0, none⟩) 0 0, .slice none 0 0]) := Lib.hid (by rw [hwa]; exact IsBlock.new w1 [.int .u64 l.length, .float .f64 s1, .slice (some ⟨g1, 0, none⟩) 11 q1, .int .i64 0, .bool false, .int .i32 0, .float .f64 0, .int .u64 0, .slice none 0 0, .slice none 0 0, .slice (some ⟨b1, 0, none⟩) 0 0, .slice (some ⟨b2, 0, none⟩) 0 0, .slice none 0 0] 36)
  have HOA : Hid (Only (fun _ => False) w1 wa) := Lib.hid (by rw [hwa]; exact (Only.refl _ w1).alloc _)
  clear hwa
  refine (histDefault_any wa).mono ?_
  rintro e wx ⟨rfl, hwx⟩
  have HS : Hid (SrcIs wx (.slice (some ⟨wa.heap.size, 0, none⟩) 11 11) 1 defBs.length (f64s defBs)) := Lib.hid (by rw [hwx]; exact .inr ⟨_, _, rfl, rfl, cells_of (IsBlock.new wa (f64s defBs) 25)⟩)
  have HOX : Hid (Only (fun _ => False) wa wx) := Lib.hid (by rw [hwx]; exact (Only.refl _ wa).alloc _)
  have HOW : Hid (Only (fun _ => False) w wx) := Lib.hid ((HO1.out.trans HOA.out).trans HOX.out)
  clear hwx
  have heff : effBs defBs = defBs := rfl
  have HASC : Hid (Asc (effBs defBs)) := Lib.hid (by rw [heff]; exact def_asc)
  have HCUT : Hid (defBs = cutBs (effBs defBs)) := Lib.hid (by rw [heff]; exact def_cut.symm)
  have HINC : Hid (Incr (cutBs (effBs defBs))) := Lib.hid (by rw [← HCUT.out]; have := def_incr; exact this)
  clear heff
  go_wp2_with fail
  refine (observe_bk (.slice (some ⟨wa.heap.size, 0, none⟩) 11 11) ba bc l gs gc defBs defBs wx (HOW.out.cell HG.out id) (HOW.out.cell HGS.out id) HS.out (by decide) HASC.out HINC.out HCUT.out (HC.out.mono HOW.out) (by have := HL.out; omega) (by decide)).mono ?_
  rintro e w3 ⟨s2, g2, q2, b3, b4, rfl, hs2, hk2, ho3⟩
  have HK2 := Lib.hid hk2
  have HS2 := Lib.hid hs2
  have HO3 := Lib.hid ho3
  clear hk2 hs2 ho3
  go_wp2_with fail
  refine (?_ : ∀ wb, wb = w3.alloc (.cells #[.int .u64 l.length, .float .f64 s2, .slice (some ⟨g2, 0, none⟩) 11 q2, .int .i64 0, .bool false, .int .i32 0, .float .f64 0, .int .u64 0, .slice none 0 0, .slice none 0 0, .slice (some ⟨b3, 0, none⟩) 0 0, .slice (some ⟨b4, 0, none⟩) 0 0, .slice none 0 0] 36) → Calls Tryz.prog 15 _ wb _) _ rfl
  intro wb hwb
  have HB : Hid (IsBlock wb w3.heap.size [.int .u64 l.length, .float .f64 s2, .slice (some ⟨g2, 0, none⟩) 11 q2, .int .i64 0, .bool false, .int .i32 0, .float .f64 0, .int .u64 0, .slice none 0 0, .slice none 0 0, .slice (some ⟨b3, 0, none⟩) 0 0, .slice (some ⟨b4, 0, none⟩) 0 0, .slice none 0 0]) := Lib.hid (by rw [hwb]; exact IsBlock.new w3 [.int .u64 l.length, .float .f64 s2, .slice (some ⟨g2, 0, none⟩) 11 q2, .int .i64 0, .bool false, .int .i32 0, .float .f64 0, .int .u64 0, .slice none 0 0, .slice none 0 0, .slice (some ⟨b3, 0, none⟩) 0 0, .slice (some ⟨b4, 0, none⟩) 0 0, .slice none 0 0] 36)
  have HOB : Hid (Only (fun _ => False) w3 wb) := Lib.hid (by rw [hwb]; exact (Only.refl _ w3).alloc _)
  have HOWB : Hid (Only (fun _ => False) w wb) := Lib.hid ((HOW.out.trans HO3.out).trans HOB.out)
  clear hwb
  refine (histObserve_nat ba bc l gs gc wb (HOWB.out.cell HG.out id) (HOWB.out.cell HGS.out id) (HC.out.mono HOWB.out) (by have := HL.out; omega) HV.out).mono ?_
  rintro e w5 ⟨R, o, rfl, hno, ho5⟩
  have hto : (nOut R 0 o).toArray = #[.int .u64 R.cnt, .float .f64 R.sum, .slice o.qa 0 o.qc, .int .i64 R.created, .bool true, .int .i32 0, .float .f64 R.zt, .int .u64 R.zc, .slice o.a1 R.Ln.length o.c1, .slice o.a2 R.Lp.length o.c2, .slice o.a3 R.tn.length o.c3, .slice o.a4 R.tp.length o.c4, .slice none 0 0] := rfl
  rw [hto]
  have HO5 := Lib.hid ho5
  clear hto hno ho5
  have HO6 : Hid (Only (fun _ => False) w5 (w5.alloc (.cells #[.int .u64 R.cnt, .float .f64 R.sum, .slice o.qa 0 o.qc, .int .i64 R.created, .bool true, .int .i32 0, .float .f64 R.zt, .int .u64 R.zc, .slice o.a1 R.Ln.length o.c1, .slice o.a2 R.Lp.length o.c2, .slice o.a3 R.tn.length o.c3, .slice o.a4 R.tp.length o.c4, .slice none 0 0] 36))) := Lib.hid ((Only.refl _ w5).alloc _)
  have hC6 : IsBlock (w5.alloc (.cells #[.int .u64 R.cnt, .float .f64 R.sum, .slice o.qa 0 o.qc, .int .i64 R.created, .bool true, .int .i32 0, .float .f64 R.zt, .int .u64 R.zc, .slice o.a1 R.Ln.length o.c1, .slice o.a2 R.Lp.length o.c2, .slice o.a3 R.tn.length o.c3, .slice o.a4 R.tp.length o.c4, .slice none 0 0] 36)) w5.heap.size [.int .u64 R.cnt, .float .f64 R.sum, .slice o.qa 0 o.qc, .int .i64 R.created, .bool true, .int .i32 0, .float .f64 R.zt, .int .u64 R.zc, .slice o.a1 R.Ln.length o.c1, .slice o.a2 R.Lp.length o.c2, .slice o.a3 R.tn.length o.c3, .slice o.a4 R.tp.length o.c4, .slice none 0 0] := IsBlock.new w5 [.int .u64 R.cnt, .float .f64 R.sum, .slice o.qa 0 o.qc, .int .i64 R.created, .bool true, .int .i32 0, .float .f64 R.zt, .int .u64 R.zc, .slice o.a1 R.Ln.length o.c1, .slice o.a2 R.Lp.length o.c2, .slice o.a3 R.tn.length o.c3, .slice o.a4 R.tp.length o.c4, .slice none 0 0] 36
  have hB6 : IsBlock (w5.alloc (.cells #[.int .u64 R.cnt, .float .f64 R.sum, .slice o.qa 0 o.qc, .int .i64 R.created, .bool true, .int .i32 0, .float .f64 R.zt, .int .u64 R.zc, .slice o.a1 R.Ln.length o.c1, .slice o.a2 R.Lp.length o.c2, .slice o.a3 R.tn.length o.c3, .slice o.a4 R.tp.length o.c4, .slice none 0 0] 36)) w3.heap.size [.int .u64 l.length, .float .f64 s2, .slice (some ⟨g2, 0, none⟩) 11 q2, .int .i64 0, .bool false, .int .i32 0, .float .f64 0, .int .u64 0, .slice none 0 0, .slice none 0 0, .slice (some ⟨b3, 0, none⟩) 0 0, .slice (some ⟨b4, 0, none⟩) 0 0, .slice none 0 0] := HO6.out.isBlock (HO5.out.isBlock HB.out id) id
  have hA6 : IsBlock (w5.alloc (.cells #[.int .u64 R.cnt, .float .f64 R.sum, .slice o.qa 0 o.qc, .int .i64 R.created, .bool true, .int .i32 0, .float .f64 R.zt, .int .u64 R.zc, .slice o.a1 R.Ln.length o.c1, .slice o.a2 R.Lp.length o.c2, .slice o.a3 R.tn.length o.c3, .slice o.a4 R.tp.length o.c4, .slice none 0 0] 36)) w1.heap.size [.int .u64 l.length, .float .f64 s1, .slice (some ⟨g1, 0, none⟩) 11 q1, .int .i64 0, .bool false, .int .i32 0, .float .f64 0, .int .u64 0, .slice none 0 0, .slice none 0 0, .slice (some ⟨b1, 0, none⟩) 0 0, .slice (some ⟨b2, 0, none⟩) 0 0, .slice none 0 0] := HO6.out.isBlock (HO5.out.isBlock (HOB.out.isBlock (HO3.out.isBlock (HOX.out.isBlock HA.out id) id) id) id) id
  have HA6 := Lib.hid hA6
  have HC6 := Lib.hid hC6
  have HOW6 : Hid (Only (fun _ => False) w (w5.alloc (.cells #[.int .u64 R.cnt, .float .f64 R.sum, .slice o.qa 0 o.qc, .int .i64 R.created, .bool true, .int .i32 0, .float .f64 R.zt, .int .u64 R.zc, .slice o.a1 R.Ln.length o.c1, .slice o.a2 R.Lp.length o.c2, .slice o.a3 R.tn.length o.c3, .slice o.a4 R.tp.length o.c4, .slice none 0 0] 36))) := Lib.hid ((HOWB.out.trans HO5.out).trans HO6.out)
  have HK : Hid ((∀ k, k < 11 → BkAt (w5.alloc (.cells #[.int .u64 R.cnt, .float .f64 R.sum, .slice o.qa 0 o.qc, .int .i64 R.created, .bool true, .int .i32 0, .float .f64 R.zt, .int .u64 R.zc, .slice o.a1 R.Ln.length o.c1, .slice o.a2 R.Lp.length o.c2, .slice o.a3 R.tn.length o.c3, .slice o.a4 R.tp.length o.c4, .slice none 0 0] 36)) g1 k (cumN (tally defBs l) (k + 1)) (wd defBs k)) ∧ (∀ k, k < 11 → BkAt (w5.alloc (.cells #[.int .u64 R.cnt, .float .f64 R.sum, .slice o.qa 0 o.qc, .int .i64 R.created, .bool true, .int .i32 0, .float .f64 R.zt, .int .u64 R.zc, .slice o.a1 R.Ln.length o.c1, .slice o.a2 R.Lp.length o.c2, .slice o.a3 R.tn.length o.c3, .slice o.a4 R.tp.length o.c4, .slice none 0 0] 36)) g2 k (cumN (tally defBs l) (k + 1)) (wd defBs k))) := Lib.hid
    ⟨fun k hk => (HK1.out k hk).kept (((((HOA.out.trans HOX.out).trans HO3.out).trans HOB.out).trans HO5.out).trans HO6.out), fun k hk => (HK2.out k hk).kept ((HOB.out.trans HO5.out).trans HO6.out)⟩
  have ya0 := hA6.cell (i := 0) rfl
  have ya1 := hA6.cell (i := 1) rfl
  have ya2 := hA6.cell (i := 2) rfl
  have ya3 := hA6.cell (i := 3) rfl
  have ya4 := hA6.cell (i := 4) rfl
  have ya5 := hA6.cell (i := 5) rfl
  have ya6 := hA6.cell (i := 6) rfl
  have ya7 := hA6.cell (i := 7) rfl
  have ya8 := hA6.cell (i := 8) rfl
  have ya9 := hA6.cell (i := 9) rfl
  have ya10 := hA6.cell (i := 10) rfl
  have ya11 := hA6.cell (i := 11) rfl
  have ya12 := hA6.cell (i := 12) rfl
  have yb0 := hB6.cell (i := 0) rfl
  have yb1 := hB6.cell (i := 1) rfl
  have yb2 := hB6.cell (i := 2) rfl
  have yb3 := hB6.cell (i := 3) rfl
  have yb4 := hB6.cell (i := 4) rfl
  have yb5 := hB6.cell (i := 5) rfl
  have yb6 := hB6.cell (i := 6) rfl
  have yb7 := hB6.cell (i := 7) rfl
  have yb8 := hB6.cell (i := 8) rfl
  have yb9 := hB6.cell (i := 9) rfl
  have yb10 := hB6.cell (i := 10) rfl
  have yb11 := hB6.cell (i := 11) rfl
  have yb12 := hB6.cell (i := 12) rfl
  clear hA6 hB6 hC6
  go_wp2_with fail
  refine (sameObs l defBs s1 s2 g1 g2 q1 q2 b1 b2 b3 b4 _ HS1.out HS2.out HK.out.1 HK.out.2 (by decide)).mono ?_
  rintro e w7 ⟨rfl, ho7⟩
  have ca := (ho7.isBlock HA6.out id).cell (i := 2) rfl
  have cc := (ho7.isBlock HC6.out id).cell (i := 2) rfl
  have cd := (ho7.isBlock HC6.out id).cell (i := 4) rfl
  have HO7 := Lib.hid (HOW6.out.trans ho7)
  clear ho7 ya0 yb0 ya1 yb1 ya2 yb2 ya3 yb3 ya4 yb4 ya5 yb5 ya6 yb6 ya7 yb7 ya8 yb8 ya9 yb9 ya10 yb10 ya11 yb11 ya12 yb12
  go_wp2_with fail
  refine (histLives_any gs gc w7 (HO7.out.cell HG.out id) (HO7.out.cell HGS.out id)).mono ?_
  rintro e w8 ⟨rfl, h8⟩
  have HF : Hid (Only (fun _ => False) w w8) := Lib.hid (HO7.out.trans h8)
  clear h8
  go_wp2_with fail
  go_ret
  exact ⟨rfl, HF.out⟩
end Go.Proofs.YtebjclmbacmilaaGreatDoor
