/- histsFrom of written classic histograms without exemplars. Conditions: as stated. histRun, classic, without exemplars: what is written is what has been observed. Conditions: as stated. histObserve, classic: the histogram that is written after observations. Conditions: as stated. -/
import Derived.Test.YtebjclmbacmilaaGreatDoorZx
import Derived.Test.YtebjclmbacmilaaGreatDoorZw
import Derived.Test.YtebjclmbacmilaaGreatDoorHr
import Derived.Test.YtebjclmbacmilaaGreatDoorxRw
namespace Go.Proofs.YtebjclmbacmilaaGreatDoor
open Go.RowKit

/-- A converted histogram: what its cells hold, and what its buckets hold. -/
structure SR where
  cnt : Nat
  sum : Nat
  qa : Option Addr
  qc : Nat
  created : Int
  b1 : Nat
  b2 : Nat
  bks : List BP
def SR.q (r : SR) : Value := .slice r.qa r.bks.length r.qc
def shC (r : SR) : List Value := [.int .u64 r.cnt, .float .f64 r.sum, .slice r.qa r.bks.length r.qc, .int .i64 r.created, .bool false, .int .i32 0, .float .f64 0, .int .u64 0, .slice none 0 0, .slice none 0 0, .slice (some ⟨r.b1, 0, none⟩) 0 0, .slice (some ⟨r.b2, 0, none⟩) 0 0, .slice none 0 0]
def shRow (l : List SR) : List Value := l.flatMap shC
def SR.told (r : SR) : Nat × Nat × Int × List BP := (r.cnt, r.sum, r.created, r.bks)
def HRec.told (h : HRec) : Nat × Nat × Int × List BP := (h.cnt, h.sum, h.created, h.bks)
theorem one_shC (r : SR) : ∀ u ∈ shC r, u.oneCell' = true := by
  intro u hu
  simp only [shC, List.mem_cons, List.mem_nil_iff, or_false] at hu
  rcases hu with rfl | rfl | rfl | rfl | rfl | rfl | rfl | rfl | rfl | rfl | rfl | rfl | rfl <;> rfl
theorem info36 : (Tryz.prog.info? 36).map (fun i => (i.zero, i.size, i.bytes)) = some (some (.agg (hVals 0 0 (.slice none 0 0) 0).toArray), 13, 192) := by kernel_rfl

/-- Between two rounds. -/
structure ShRel (w : World) (hs : List HRec) (k : Nat) (v : Value) (rs : List SR) (wr : World) : Prop where
  own : wr.ownsRow w.heap.size 36 13 v k (shRow rs)
  bks : ∀ r ∈ rs, wr.ownsRow w.heap.size 43 6 r.q r.bks.length (bRow r.bks)
  told : rs.map SR.told = (hs.take k).map HRec.told
  only : Only (fun _ => False) w wr

theorem sh_step {w w6 w8 : World} {hs : List HRec} {k : Nat} {ta : Option Addr} {tc : Nat} {rs : List SR} {wr : World} {h : HRec} {r : SR} {o : Obj} {v8 : Value} (R : ShRel w hs k (.slice ta k tc) rs wr) (hk : k < hs.length) (he : h = hs[k])
    (h6 : Only (fun _ => False) wr w6) (hq : w6.ownsRow wr.heap.size 43 6 r.q r.bks.length (bRow r.bks)) (hr : r.told = h.told)
    (hown : w8.ownsRow w.heap.size 36 13 v8 (k + 1) (shRow rs ++ shC r)) (hg : (w6.alloc o).grownBy w8 (Value.slice ta k tc).ownBlock) : ShRel w hs (k + 1) v8 (rs ++ [r]) w8 := by
  have hon : Only (fun j => (Value.slice ta k tc).ownBlock = some j) w6 w8 := ((Only.refl _ w6).alloc _).trans (Only.grown hg)
  have hown6 : w6.ownsRow w.heap.size 36 13 (.slice ta k tc) k (shRow rs) := h6.ownsRow R.own (fun _ _ => id)
  have hap : ∀ {b n : Nat} {q : Value} {xs : List Value}, w6.ownsRow b 43 6 q n xs → w8.ownsRow b 43 6 q n xs := fun hx => hon.ownsRow hx (fun j hj hs' => ownsRow_apart hown6 hx (by decide) j hs' hj)
  refine ⟨?_, fun r' hr' => ?_, ?_, ?_⟩
  · unfold shRow at hown ⊢
    rw [List.flatMap_append]
    simpa using hown
  · rcases List.mem_append.1 hr' with hr' | hr'
    · exact hap (h6.ownsRow (R.bks r' hr') (fun _ _ => id))
    · rw [List.mem_singleton.1 hr']
      exact ownsRow_lower (hap hq) R.only.size
  · rw [List.map_append, R.told, List.take_succ_eq_append_getElem hk, List.map_append, ← he]
    simp [hr]
  · exact Only.widen (R.only.trans h6) hon (fun j hj => (hown6.lt j hj).1)

set_option maxRecDepth 100000 in
set_option maxHeartbeats 1600000 in
theorem histsFrom_plain (v : Value) (hs : List HRec) (B B2 : Nat) (w : World) (hrow : w.ownsRow B 92 13 v hs.length (hRow hs)) (hbk : ∀ h ∈ hs, w.ownsRow B2 96 6 h.v h.bks.length (bRow h.bks)) (hlen : hs.length ≤ 4194304) (hbl : ∀ h ∈ hs, h.bks.length ≤ 1048578) :
    Calls Tryz.prog 40 #[v] w fun e w' => ∃ v' rs, e = .returned v' ∧ ShRel w hs hs.length v' rs w' := by
  obtain ⟨i36, hi, hz0, hz1, hz2⟩ := info_parts info36
  obtain ⟨la, lc, rfl⟩ := ownsRow_slice hrow
  have hlen' : (hs.length : Int) ≤ 4194304 := by omega
  have HROW := Lib.hid hrow
  have HBK := Lib.hid hbk
  have HBL := Lib.hid hbl
  clear hrow hbk hbl
  go_enter Tryz.func40, Tryz.ntmps40
  go_wp2_with fail
  go_loopw [3, 4] (fun v i wr => ∃ (k : Nat) (rs : List SR), k ≤ hs.length ∧ i = .int .i64 k ∧ ShRel w hs k v rs wr) (fun _ i _ => hs.length - (intOf i).toNat)
  case atStart => exact ⟨0, [], Nat.zero_le _, rfl, World.ownsRow_nil _ _ _ _, fun r hr => by simp at hr, rfl, Only.refl _ _⟩
  case round =>
    obtain ⟨k, rs, hk, rfl, hR⟩ := hrel
    obtain ⟨ta, tc, rfl⟩ := ownsRow_slice hR.own
    have HR := Lib.hid hR
    clear hR
    by_cases hkn : k < hs.length
    · have hk0 : (0 : Int) ≤ (k : Int) := by omega
      have hk1 : (k : Int) < (hs.length : Int) := by omega
      obtain ⟨g, rfl, hcells⟩ := row_cells (cl := hCl hs[k]) HROW.out hkn HR.out.only (fun j hj => flat_get hCl 13 (fun _ => rfl) hs k j hkn hj)
      obtain ⟨x, hx⟩ : ∃ x, x = hs[k] := ⟨_, rfl⟩
      have hmem : x ∈ hs := by rw [hx]; exact List.getElem_mem hkn
      rw [← hx] at hcells
      have hxb := HR.out.only.ownsRow (HBK.out x hmem) (fun _ _ => id)
      obtain ⟨xa, xc, hxv⟩ := ownsRow_slice hxb
      rw [hxv] at hxb
      have k0 : wr.cell? ⟨g, k * 13, none⟩ = some (.int .u64 x.cnt) := hcells 0 _ rfl
      have k1 : wr.cell? ⟨g, k * 13 + 1, none⟩ = some (.float .f64 x.sum) := hcells 1 _ rfl
      have k2 : wr.cell? ⟨g, k * 13 + 2, none⟩ = some (.slice xa x.bks.length xc) := by rw [← hxv]; exact hcells 2 _ rfl
      have k3 : wr.cell? ⟨g, k * 13 + 3, none⟩ = some (.int .i64 x.created) := hcells 3 _ rfl
      have k4 : wr.cell? ⟨g, k * 13 + 4, none⟩ = some (.bool false) := hcells 4 _ rfl
      have k5 : wr.cell? ⟨g, k * 13 + 5, none⟩ = some (.int .i32 0) := hcells 5 _ rfl
      have k6 : wr.cell? ⟨g, k * 13 + 6, none⟩ = some (.float .f64 0) := hcells 6 _ rfl
      have k7 : wr.cell? ⟨g, k * 13 + 7, none⟩ = some (.int .u64 0) := hcells 7 _ rfl
      have k8 : wr.cell? ⟨g, k * 13 + 8, none⟩ = some (.slice none 0 0) := hcells 8 _ rfl
      have k9 : wr.cell? ⟨g, k * 13 + 9, none⟩ = some (.slice none 0 0) := hcells 9 _ rfl
      have k10 : wr.cell? ⟨g, k * 13 + 10, none⟩ = some (.slice none 0 0) := hcells 10 _ rfl
      have k11 : wr.cell? ⟨g, k * 13 + 11, none⟩ = some (.slice none 0 0) := hcells 11 _ rfl
      have k12 : wr.cell? ⟨g, k * 13 + 12, none⟩ = some (.slice none 0 0) := hcells 12 _ rfl
      have HXB := Lib.hid hxb
      have HX := Lib.hid hx
      have HMEM := Lib.hid hmem
      clear hcells hx hmem hxb hxv
      go_wp2_with fail
      refine (histFrom_plain x.cnt x.sum xa xc x.created x.bks _ wr HXB.out (HBL.out x HMEM.out)).mono ?_
      rintro e w6 ⟨qa, qc, b1, b2, rfl, hq6, ho6⟩
      obtain ⟨r, hr⟩ : ∃ r : SR, r = ⟨x.cnt, x.sum, qa, qc, x.created, b1, b2, x.bks⟩ := ⟨_, rfl⟩
      have HQ6 : Hid (w6.ownsRow wr.heap.size 43 6 r.q r.bks.length (bRow r.bks)) := Lib.hid (by rw [hr]; exact hq6)
      have HO6 := Lib.hid ho6
      have HT6 : Hid (r.told = x.told) := Lib.hid (by rw [hr]; rfl)
      have h6 := ho6.ownsRow HR.out.own (fun _ _ => id)
      have hc6 : shC r = [.int .u64 x.cnt, .float .f64 x.sum, .slice qa x.bks.length qc, .int .i64 x.created, .bool false, .int .i32 0, .float .f64 0, .int .u64 0, .slice none 0 0, .slice none 0 0, .slice (some ⟨b1, 0, none⟩) 0 0, .slice (some ⟨b2, 0, none⟩) 0 0, .slice none 0 0] := by rw [hr]; rfl
      have HC6 := Lib.hid hc6
      clear ho6 hq6 hr hc6 k0 k1 k2 k3 k4 k5 k6 k7 k8 k9 k10 k11 k12
      go_wp2_with (at_builtin; go_must (refine wpList_append_own _ rfl _ _ 49 rfl w.heap.size 36 i36 _ 13 192 Tryz.underlying49 hi hz0 hz1 hz2 rfl (by decide) _ _ _ rfl (h6.alloc _) ⟨w6.heap.size, 0, none⟩ 1 1 [.int .u64 x.cnt, .float .f64 x.sum, .slice qa x.bks.length qc, .int .i64 x.created, .bool false, .int .i32 0, .float .f64 0, .int .u64 0, .slice none 0 0, .slice none 0 0, .slice (some ⟨b1, 0, none⟩) 0 0, .slice (some ⟨b2, 0, none⟩) 0 0, .slice none 0 0] rfl rfl (cells_of (IsBlock.new w6 [.int .u64 x.cnt, .float .f64 x.sum, .slice qa x.bks.length qc, .int .i64 x.created, .bool false, .int .i32 0, .float .f64 0, .int .u64 0, .slice none 0 0, .slice none 0 0, .slice (some ⟨b1, 0, none⟩) 0 0, .slice (some ⟨b2, 0, none⟩) 0 0, .slice none 0 0] 36)) ?c1 ?c3 ?c4 ?c5 ?_))
      case c1 => rw [← HC6.out]; exact one_shC r
      case c3 => unfold maxLen; omega
      case c4 => omega
      case c5 => have := HR.out.only.size; have := HO6.out.size; rw [World.size_alloc]; omega
      intro v8 w8 hown8 hgr8 _
      have HNX : Hid (ShRel w hs (k + 1) v8 (rs ++ [r]) w8) := Lib.hid (sh_step HR.out hkn HX.out HO6.out HQ6.out HT6.out (by rw [HC6.out]; exact hown8) hgr8)
      clear hown8 hgr8 h6
      go_wp2_with fail
      go_roundw
      case rel => exact ⟨k + 1, rs ++ [r], hkn, by go_num, HNX.out⟩
      case measure => simp [intOf]; omega
    · have hke : k = hs.length := by omega
      subst hke
      have hk1 : ¬ (hs.length : Int) < (hs.length : Int) := by omega
      clear hkn hk
      go_wp2_with fail
      go_ret
      exact ⟨_, rfl, rs, HR.out⟩
end Go.Proofs.YtebjclmbacmilaaGreatDoor

namespace Go.Proofs.YtebjclmbacmilaaGreatDoor
open Go.RowKit

theorem src_of_owns {w : World} {b e n : Nat} {v : Value} {xs : List Value} (h : w.ownsRow b e 1 v n xs) : SrcIs w v 1 n xs := by
  have h1 := h.1
  rcases h.2 with ⟨hv, hn⟩ | ⟨g, cap, cur, hv, _⟩
  · exact .inl ⟨hv, hn, List.length_eq_zero_iff.1 (by rw [h1, hn])⟩
  · exact .inr ⟨⟨g, 0, none⟩, cap, hv, h1, fun j u hj => h.cells (g := g) (by rw [hv]; rfl) j u hj⟩
def SR.asRec (r : SR) : HRec := ⟨r.cnt, r.sum, r.q, r.created, r.bks⟩
/-- The converted histograms are those of these observations. -/
structure SOuts (bs : List Nat) (t0 : Int) (rs : List SR) (ls : List (List Nat)) : Prop where
  len : rs.length = ls.length
  ok : ∀ (i : Nat) r l, rs[i]? = some r → ls[i]? = some l → Rec bs t0 r.asRec l
theorem told_len {rs : List SR} {hs : List HRec} (h : rs.map SR.told = hs.map HRec.told) : rs.length = hs.length := by
  have := congrArg List.length h
  simpa using this
theorem souts_of {bs : List Nat} {t0 : Int} {hs : List HRec} {rs : List SR} {ls : List (List Nat)} (O : Outs bs t0 hs ls) (h : rs.map SR.told = hs.map HRec.told) : SOuts bs t0 rs ls := by
  have hl := told_len h
  refine ⟨hl.trans O.len, fun i r l hr hls => ?_⟩
  have hi : i < hs.length := by
    have : i < rs.length := (List.getElem?_eq_some_iff.1 hr).1
    omega
  have e := congrArg (fun q => q[i]?) h
  simp only [List.getElem?_map, hr, List.getElem?_eq_getElem hi, Option.map_some, Option.some.injEq] at e
  have hR := O.ok i hs[i] l (List.getElem?_eq_getElem hi) hls
  simp only [SR.told, HRec.told, Prod.mk.injEq] at e
  obtain ⟨e1, e2, e3, e4⟩ := e
  exact ⟨e1.trans hR.cnt, (show SumTo l r.sum by rw [e2]; exact hR.sum), e3.trans hR.created, (show r.bks.map _ = _ by rw [e4]; exact hR.bks)⟩
theorem outs_bks {bs : List Nat} {t0 : Int} {hs : List HRec} {ls : List (List Nat)} (O : Outs bs t0 hs ls) : ∀ h ∈ hs, h.bks.length = bs.length := by
  intro h hh
  obtain ⟨i, hi, rfl⟩ := List.getElem_of_mem hh
  have hi2 : i < ls.length := by have := O.len; omega
  have hR := O.ok i hs[i] ls[i] (List.getElem?_eq_getElem hi) (List.getElem?_eq_getElem hi2)
  have := congrArg List.length hR.bks
  simpa using this
theorem cutBs_len (bs : List Nat) : (cutBs bs).length ≤ bs.length := by
  unfold cutBs
  split
  · rw [List.length_dropLast]; omega
  · exact Nat.le_refl _

set_option maxRecDepth 100000 in
set_option maxHeartbeats 3200000 in
theorem lawRun_plain (bsl : Value) (fac zt : Nat) (maxB mr : Int) (maxZero : Nat) (mex ttl t0 : Int) (la : Option Addr) (lc : Nat) (steps : List SD) (B : Nat) (gs : Addr) (gc : Nat) (bs : List Nat) (w : World)
    (hg : w.cell? ⟨2, 0, none⟩ = some (.slice (some gs) 1 gc)) (hgs : w.cell? gs = some (.int .u8 255))
    (hf : (FloatKind.f64.format.order fac 4607182418800017408 == some .lt || FloatKind.f64.format.order fac 4607182418800017408 == some .eq) = true)
    (hb : SrcIs w bsl 1 bs.length (f64s bs)) (hlen : bs.length ≤ 1048577) (hasc : Asc (effBs bs)) (hinc : Incr (cutBs (effBs bs)))
    (hst : w.ownsRow B 63 4 (.slice la steps.length lc) steps.length (sRow steps)) (hsl : steps.length ≤ 4194304) (hkd : ∀ x ∈ steps, x.kind = 0 ∨ x.kind = 2) (hnl : ∀ x ∈ steps, Value.slice x.la x.ln x.lc = .slice none 0 0) :
    Calls Tryz.prog 19 #[.agg #[bsl, .float .f64 fac, .float .f64 zt, .int .u32 maxB, .int .i64 mr, .float .f64 maxZero, .int .i64 mex, .int .i64 ttl], .int .i64 t0, .slice la steps.length lc] w fun e w' => ∃ (v : Value) (rs : List SR), e = .returned (.tuple #[v, .bool true]) ∧
      w'.ownsRow w.heap.size 36 13 v rs.length (shRow rs) ∧ (∀ r ∈ rs, w'.ownsRow w.heap.size 43 6 r.q r.bks.length (bRow r.bks)) ∧ SOuts (cutBs (effBs bs)) t0 rs (outsOf steps) ∧ Only (fun _ => False) w w' := by
  obtain ⟨sa, sl, sc, rfl⟩ : ∃ sa sl sc, bsl = .slice sa sl sc := by
    rcases hb with ⟨h, _⟩ | ⟨_, _, h, _⟩
    · exact ⟨_, _, _, h⟩
    · exact ⟨_, _, _, h⟩
  have HG := Lib.hid hg
  have HGS := Lib.hid hgs
  have HF := Lib.hid hf
  have HB := Lib.hid hb
  have HLEN := Lib.hid hlen
  have HASC := Lib.hid hasc
  have HINC := Lib.hid hinc
  have HST := Lib.hid hst
  have HSL := Lib.hid hsl
  have HKD := Lib.hid hkd
  have HNL := Lib.hid hnl
  clear hg hgs hf hb hlen hasc hinc hst hsl hkd hnl
  go_enter Tryz.func19, Tryz.ntmps19
  go_wp2_with fail
  refine (?_ : ∀ w2, w2 = w.alloc (.cells (sVals (.slice sa sl sc) fac zt maxB mr maxZero mex ttl).toArray 28) → Calls Tryz.prog 38 _ w2 _) _ rfl
  intro w2 hw2
  have HO2 : Hid (Only (fun _ => False) w w2) := Lib.hid (by rw [hw2]; exact (Only.refl _ w).alloc _)
  have hs2 : SrcIs w2 (.slice sa sl sc) 1 bs.length (f64s bs) := by rw [hw2]; exact HB.out.mono (fun a v h => cell_past h _)
  clear hw2
  refine (setupTo_plain (.slice sa sl sc) fac zt maxB mr maxZero mex ttl bs w2 hs2 HLEN.out).mono ?_
  rintro e w3 ⟨ba, bc, rfl, hr3, ho3⟩
  have HR3 := Lib.hid hr3
  have HO3 := Lib.hid (HO2.out.trans ho3)
  clear hr3 ho3 hs2
  go_wp2_with fail
  refine (stepsTo_plain la lc steps B w3 (HO3.out.ownsRow HST.out (fun _ _ => id)) HSL.out HNL.out).mono ?_
  rintro e w4 ⟨sv, rfl, hr4, ho4⟩
  obtain ⟨ta, tc, rfl⟩ := ownsRow_slice hr4
  have HR4 := Lib.hid hr4
  have HO4 := Lib.hid (HO3.out.trans ho4)
  have HS4 : Hid (SrcIs w4 (.slice ba bs.length bc) 1 bs.length (f64s bs)) := Lib.hid (src_of_owns (ho4.ownsRow HR3.out (fun _ _ => id)))
  clear hr4 ho4
  go_wp2_with fail
  refine (histRun_plain ba bs.length bc fac zt maxB mr maxZero mex ttl t0 ta tc steps w3.heap.size gs gc bs w4 (HO4.out.cell HG.out id) (HO4.out.cell HGS.out id) HF.out HS4.out HLEN.out HASC.out HINC.out HR4.out HSL.out HKD.out).mono ?_
  rintro e w5 ⟨hs, vo, vt, rfl, hr5, hb5, ht5, hot5, ho5⟩
  obtain ⟨oa, oc, rfl⟩ := ownsRow_slice hr5
  obtain ⟨ua, uc, rfl⟩ := ownsRow_slice ht5
  have HR5 := Lib.hid hr5
  have HB5 := Lib.hid hb5
  have HOT := Lib.hid hot5
  have HO5 := Lib.hid (HO4.out.trans ho5)
  clear hr5 hb5 ht5 hot5 ho5
  go_wp2_with fail
  refine (histsFrom_plain _ hs w4.heap.size w4.heap.size w5 HR5.out HB5.out (by have := HOT.out.len; have := outsFrom_len steps []; have := HSL.out; unfold outsOf at *; omega) (fun h hh => by rw [outs_bks HOT.out h hh]; have := cutBs_len (effBs bs); have := effBs_len HLEN.out; omega)).mono ?_
  rintro e w6 ⟨v6, rs, rfl, hR⟩
  obtain ⟨qa, qc, rfl⟩ := ownsRow_slice hR.own
  have hln : rs.length = hs.length := by have := hR.told; rw [List.take_of_length_le (Nat.le_refl _)] at this; exact told_len this
  have HFN : Hid (w6.ownsRow w.heap.size 36 13 (.slice qa hs.length qc) rs.length (shRow rs) ∧ (∀ r ∈ rs, w6.ownsRow w.heap.size 43 6 r.q r.bks.length (bRow r.bks)) ∧ SOuts (cutBs (effBs bs)) t0 rs (outsOf steps) ∧ Only (fun _ => False) w w6) := Lib.hid
    ⟨by rw [hln]; exact ownsRow_lower hR.own HO5.out.size, fun r hr => ownsRow_lower (hR.bks r hr) HO5.out.size, souts_of HOT.out (by have := hR.told; rwa [List.take_of_length_le (Nat.le_refl _)] at this), HO5.out.trans hR.only⟩
  clear hR hln
  go_wp2_with fail
  go_ret2
  exact ⟨_, rs, rfl, HFN.out⟩
end Go.Proofs.YtebjclmbacmilaaGreatDoor

namespace Go.Proofs.YtebjclmbacmilaaGreatDoor
open Go.RowKit

theorem info63 : (Tryz.prog.info? 63).map (fun i => (i.zero, i.size, i.bytes)) = some (some (.agg #[.int .i64 0, .float .f64 0, .slice none 0 0, .int .i64 0]), 4, 48) := by kernel_rfl
def obS (x : Nat) : SD := ⟨0, x, none, 0, 0, 0⟩
def wrS : SD := ⟨2, 0, none, 0, 0, 0⟩
def obRow (l : List Nat) : List SD := l.map obS
theorem one_sCl (x : SD) : ∀ u ∈ sCl x, u.oneCell' = true := by
  intro u hu
  simp only [sCl, List.mem_cons, List.mem_nil_iff, or_false] at hu
  rcases hu with rfl | rfl | rfl | rfl <;> rfl
theorem outs_ob (acc l : List Nat) : outsFrom acc (obRow l ++ [wrS]) = [acc ++ l] := by
  induction l generalizing acc with
  | nil => simp [obRow, outsFrom, wrS]
  | cons x r ih =>
    have := ih (acc ++ [x])
    simp only [obRow, List.map_cons, List.cons_append] at this ⊢
    unfold outsFrom
    rw [if_neg (by simp [obS])]
    rw [show (obS x).value = x from rfl, this]
    simp
theorem kinds_ob (l : List Nat) : ∀ x ∈ obRow l ++ [wrS], x.kind = 0 ∨ x.kind = 2 := by
  intro x hx
  rcases List.mem_append.1 hx with hx | hx
  · obtain ⟨y, _, rfl⟩ := List.mem_map.1 hx; exact .inl rfl
  · rw [List.mem_singleton.1 hx]; exact .inr rfl
theorem labels_ob (l : List Nat) : ∀ x ∈ obRow l ++ [wrS], Value.slice x.la x.ln x.lc = .slice none 0 0 := by
  intro x hx
  rcases List.mem_append.1 hx with hx | hx
  · obtain ⟨y, _, rfl⟩ := List.mem_map.1 hx; rfl
  · rw [List.mem_singleton.1 hx]; rfl
theorem len_ob (l : List Nat) : (obRow l ++ [wrS]).length = l.length + 1 := by simp [obRow]

/-- Between two rounds of the loop over the observations. -/
structure ObRel (w2 : World) (l : List Nat) (k : Nat) (v : Value) (wr : World) : Prop where
  own : wr.ownsRow w2.heap.size 63 4 v k (sRow (obRow (l.take k)))
  only : Only (fun _ => False) w2 wr
theorem obRel_step {w2 wr w8 : World} {l : List Nat} {k : Nat} {ta : Option Addr} {tc : Nat} {o : Obj} {v8 : Value} (R : ObRel w2 l k (.slice ta k tc) wr) (hk : k < l.length)
    (hown : w8.ownsRow w2.heap.size 63 4 v8 (k + 1) (sRow (obRow (l.take k)) ++ sCl (obS (wd l k)))) (hg : (wr.alloc o).grownBy w8 (Value.slice ta k tc).ownBlock) : ObRel w2 l (k + 1) v8 w8 := by
  have hon : Only (fun j => (Value.slice ta k tc).ownBlock = some j) wr w8 := ((Only.refl _ wr).alloc _).trans (Only.grown hg)
  refine ⟨?_, Only.widen R.only hon (fun j hj => (R.own.lt j hj).1)⟩
  have e : sRow (obRow (l.take (k + 1))) = sRow (obRow (l.take k)) ++ sCl (obS (wd l k)) := by
    rw [List.take_succ_eq_append_getElem hk, getD_get]
    unfold obRow sRow
    rw [List.map_append, List.flatMap_append]
    simp [wd]
  rw [e]; exact hown

/-- What the result is. -/
def Told (bs : List Nat) (l : List Nat) (w w' : World) (r : SR) : Prop := Rec bs 0 r.asRec l ∧ w'.ownsRow w.heap.size 43 6 r.q r.bks.length (bRow r.bks) ∧ Only (fun _ => False) w w'
theorem one_row {w : World} {b : Nat} {v : Value} {rs : List SR} {n : Nat} (h : w.ownsRow b 36 13 v n (shRow rs)) (hn : n = 1) : ∃ g cap, v = .slice (some ⟨g, 0, none⟩) 1 cap := by
  subst hn
  rcases h.2 with ⟨_, h0⟩ | ⟨g, cap, cur, hv, _⟩
  · omega
  · exact ⟨g, cap, hv⟩

/-- The one written histogram among the results. -/
theorem row_one {w : World} {b cap g : Nat} {r : SR} (h : w.ownsRow b 36 13 (.slice (some ⟨g, 0, none⟩) 1 cap) 1 (shRow [r])) : ∀ j u, (shC r)[j]? = some u → w.cell? ⟨g, j, none⟩ = some u := fun j u hj => by
  have := h.cells (g := g) rfl j u (by simpa [shRow] using hj)
  have e : (⟨g, 0, none⟩ : Addr).add j = ⟨g, j, none⟩ := by unfold Addr.add; split <;> simp_all
  rwa [e] at this
theorem ob_call (sa : Option Addr) (sl sc fac zt : Nat) (maxB mr : Int) (maxZero : Nat) (mex ttl : Int) (ra : Option Addr) (rc : Nat) (l : List Nat) (B : Nat) (gs : Addr) (gc : Nat) (bs : List Nat) (w : World)
    (hg : w.cell? ⟨2, 0, none⟩ = some (.slice (some gs) 1 gc)) (hgs : w.cell? gs = some (.int .u8 255))
    (hf : (FloatKind.f64.format.order fac 4607182418800017408 == some .lt || FloatKind.f64.format.order fac 4607182418800017408 == some .eq) = true)
    (hb : SrcIs w (.slice sa sl sc) 1 bs.length (f64s bs)) (hlen : bs.length ≤ 1048577) (hasc : Asc (effBs bs)) (hinc : Incr (cutBs (effBs bs)))
    (hst : w.ownsRow B 63 4 (.slice ra (l.length + 1) rc) (l.length + 1) (sRow (obRow l) ++ sCl wrS)) (hl : l.length ≤ 2097152) :
    Calls Tryz.prog 19 #[.agg #[.slice sa sl sc, .float .f64 fac, .float .f64 zt, .int .u32 maxB, .int .i64 mr, .float .f64 maxZero, .int .i64 mex, .int .i64 ttl], .int .i64 0, .slice ra (l.length + 1) rc] w fun e w' => ∃ (v : Value) (r : SR), e = .returned (.tuple #[v, .bool true]) ∧ ∃ g cap,
      v = .slice (some ⟨g, 0, none⟩) 1 cap ∧ (∀ j u, (shC r)[j]? = some u → w'.cell? ⟨g, j, none⟩ = some u) ∧ Rec (cutBs (effBs bs)) 0 r.asRec l ∧ w'.ownsRow w.heap.size 43 6 r.q r.bks.length (bRow r.bks) ∧ Only (fun _ => False) w w' := by
  have hln := len_ob l
  have hrow : sRow (obRow l ++ [wrS]) = sRow (obRow l) ++ sCl wrS := by unfold sRow; rw [List.flatMap_append]; simp
  have h := lawRun_plain (.slice sa sl sc) fac zt maxB mr maxZero mex ttl 0 ra rc (obRow l ++ [wrS]) B gs gc bs w hg hgs hf hb hlen hasc hinc (by rw [hln, hrow]; exact hst) (by omega) (kinds_ob l) (labels_ob l)
  rw [hln] at h
  refine h.mono ?_
  rintro e w' ⟨v, rs, rfl, hr, hb', ho, hon⟩
  have he : outsOf (obRow l ++ [wrS]) = [l] := by unfold outsOf; rw [outs_ob]; rfl
  rw [he] at ho
  obtain ⟨r, rfl⟩ := List.length_eq_one_iff.1 ho.len
  obtain ⟨g, cap, rfl⟩ := one_row hr rfl
  exact ⟨_, r, rfl, g, cap, rfl, row_one hr, ho.ok 0 r l rfl rfl, hb' r (by simp), hon⟩

set_option maxRecDepth 100000 in
set_option maxHeartbeats 3200000 in
theorem histObserve_plain (bsl : Value) (fac zt : Nat) (maxB mr : Int) (maxZero : Nat) (mex ttl : Int) (la : Option Addr) (lc : Nat) (l : List Nat) (gs : Addr) (gc : Nat) (bs : List Nat) (w : World)
    (hg : w.cell? ⟨2, 0, none⟩ = some (.slice (some gs) 1 gc)) (hgs : w.cell? gs = some (.int .u8 255))
    (hf : (FloatKind.f64.format.order fac 4607182418800017408 == some .lt || FloatKind.f64.format.order fac 4607182418800017408 == some .eq) = true)
    (hb : SrcIs w bsl 1 bs.length (f64s bs)) (hlen : bs.length ≤ 1048577) (hasc : Asc (effBs bs)) (hinc : Incr (cutBs (effBs bs)))
    (hc : InCells w la l) (hl : l.length ≤ 2097152) :
    Calls Tryz.prog 15 #[.agg #[bsl, .float .f64 fac, .float .f64 zt, .int .u32 maxB, .int .i64 mr, .float .f64 maxZero, .int .i64 mex, .int .i64 ttl], .slice la l.length lc] w fun e w' => ∃ (r : SR), e = .returned (.tuple #[.agg (shC r).toArray, .bool true]) ∧ Told (cutBs (effBs bs)) l w w' r := by
  obtain ⟨i63, hi, hz0, hz1, hz2⟩ := info_parts info63
  obtain ⟨sa, sl, sc, rfl⟩ : ∃ sa sl sc, bsl = .slice sa sl sc := by
    rcases hb with ⟨h, _⟩ | ⟨_, _, h, _⟩
    · exact ⟨_, _, _, h⟩
    · exact ⟨_, _, _, h⟩
  have hl' : (l.length : Int) ≤ 2097152 := by omega
  have HG := Lib.hid hg
  have HGS := Lib.hid hgs
  have HF := Lib.hid hf
  have HB := Lib.hid hb
  have HLEN := Lib.hid hlen
  have HASC := Lib.hid hasc
  have HINC := Lib.hid hinc
  have HC := Lib.hid hc
  clear hg hgs hf hb hlen hasc hinc hc
  have hB : IsBlock ((w.alloc (.cells (sVals (.slice sa sl sc) fac zt maxB mr maxZero mex ttl).toArray 28)).alloc (.cells (hVals 0 0 (.slice none 0 0) 0).toArray 36)) w.heap.size (sVals (.slice sa sl sc) fac zt maxB mr maxZero mex ttl) := (IsBlock.new w _ 28).alloc _
  have hR : IsBlock ((w.alloc (.cells (sVals (.slice sa sl sc) fac zt maxB mr maxZero mex ttl).toArray 28)).alloc (.cells (hVals 0 0 (.slice none 0 0) 0).toArray 36)) (w.heap.size + 1) (hVals 0 0 (.slice none 0 0) 0) := blk_new _ _ _ _ (World.size_alloc _ _).symm
  have hO : Only (fun _ => False) w ((w.alloc (.cells (sVals (.slice sa sl sc) fac zt maxB mr maxZero mex ttl).toArray 28)).alloc (.cells (hVals 0 0 (.slice none 0 0) 0).toArray 36)) := ((Only.refl _ w).alloc _).alloc _
  go_enter Tryz.func15, Tryz.ntmps15
  go_wp2_with fail
  refine (?_ : ∀ w2, w2 = (w.alloc (.cells (sVals (.slice sa sl sc) fac zt maxB mr maxZero mex ttl).toArray 28)).alloc (.cells (hVals 0 0 (.slice none 0 0) 0).toArray 36) → Code.wp _ _ _ _ w2) _ rfl
  intro w2 hw2
  have HSZ : Hid (w2.heap.size = w.heap.size + 2) := Lib.hid (by rw [hw2]; simp)
  rw [← hw2] at hB hR hO
  have HB2 := Lib.hid hB
  have HR2 := Lib.hid hR
  have HO2 := Lib.hid hO
  clear hw2 hB hR hO
  go_loopw [6, 7] (fun v i wr => ∃ (k : Nat), k ≤ l.length ∧ i = .int .i64 k ∧ ObRel w2 l k v wr) (fun _ i _ => l.length - (intOf i).toNat)
  case atStart => exact ⟨0, Nat.zero_le _, rfl, World.ownsRow_nil _ _ _ _, Only.refl _ _⟩
  case round =>
    obtain ⟨k, hk, rfl, hRel⟩ := hrel
    obtain ⟨ta, tc, rfl⟩ := ownsRow_slice hRel.own
    have HREL := Lib.hid hRel
    clear hRel
    by_cases hkn : k < l.length
    · have hk0 : (0 : Int) ≤ (k : Int) := by omega
      have hk1 : (k : Int) < (l.length : Int) := by omega
      obtain ⟨b, off, rfl, hcell⟩ := HC.out k hkn
      have hx : wr.cell? ⟨b, off + k, none⟩ = some (.float .f64 (wd l k)) := HREL.out.only.cell (HO2.out.cell hcell id) id
      obtain ⟨x, hxe⟩ : ∃ x, x = wd l k := ⟨_, rfl⟩
      rw [← hxe] at hx
      have HX := Lib.hid hxe
      clear hcell hk hxe
      go_wp2_with (at_builtin; go_must (refine wpList_append_own _ rfl _ _ 46 rfl w2.heap.size 63 i63 _ 4 48 Tryz.underlying46 hi hz0 hz1 hz2 rfl (by decide) _ _ _ rfl (HREL.out.own.alloc _) ⟨wr.heap.size, 0, none⟩ 1 1 (sCl (obS x)) rfl rfl (cells_of (IsBlock.new wr (sCl (obS x)) 63)) (one_sCl _) ?c3 ?c4 ?c5 ?_))
      case c3 => unfold maxLen; omega
      case c4 => omega
      case c5 => have := HREL.out.only.size; rw [World.size_alloc]; omega
      intro v8 w8 hown8 hgr8 _
      have HNX : Hid (ObRel w2 l (k + 1) v8 w8) := Lib.hid (obRel_step HREL.out hkn (by rw [← HX.out]; exact hown8) hgr8)
      clear hown8 hgr8
      go_wp2_with fail
      go_roundw
      case rel => exact ⟨k + 1, hkn, by go_num, HNX.out⟩
      case measure => simp [intOf]; omega
    · have hke : k = l.length := by omega
      subst hke
      have hk1 : ¬ (l.length : Int) < (l.length : Int) := by omega
      clear hkn hk
      have hown : wr.ownsRow w2.heap.size 63 4 (.slice ta l.length tc) l.length (sRow (obRow l)) := by have := HREL.out.own; rwa [List.take_of_length_le (Nat.le_refl _)] at this
      have hB := HREL.out.only.isBlock HB2.out id
      have hRz := HREL.out.only.isBlock HR2.out id
      have hON := HO2.out.trans HREL.out.only
      have hzz : w2.heap.size ≤ wr.heap.size := HREL.out.only.size
      have HM : Hid (((wr.alloc (.cells (sCl wrS).toArray 63)).drew).ownsRow w2.heap.size 63 4 (.slice ta l.length tc) l.length (sRow (obRow l))) := Lib.hid (show (wr.alloc (.cells (sCl wrS).toArray 63)).ownsRow w2.heap.size 63 4 (.slice ta l.length tc) l.length (sRow (obRow l)) from hown.alloc _)
      have HSR : Hid (SrcIs ((wr.alloc (.cells (sCl wrS).toArray 63)).drew) (.slice (some ⟨wr.heap.size, 0, none⟩) 1 1) 4 1 (sCl wrS)) := Lib.hid (.inr ⟨_, _, rfl, rfl, cells_of (IsBlock.new wr (sCl wrS) 63).drew⟩)
      have HZ1 : Hid (w2.heap.size ≤ ((wr.alloc (.cells (sCl wrS).toArray 63)).drew).heap.size) := Lib.hid (show w2.heap.size ≤ (wr.alloc (.cells (sCl wrS).toArray 63)).heap.size by rw [World.size_alloc]; omega)
      have HOA : Hid (Only (fun _ => False) w ((wr.alloc (.cells (sCl wrS).toArray 63)).drew)) := Lib.hid ((hON.alloc _).drew)
      have HBA : Hid (IsBlock ((wr.alloc (.cells (sCl wrS).toArray 63)).drew) w.heap.size (sVals (.slice sa sl sc) fac zt maxB mr maxZero mex ttl)) := Lib.hid (hB.alloc _).drew
      have HRA : Hid (IsBlock ((wr.alloc (.cells (sCl wrS).toArray 63)).drew) (w.heap.size + 1) (hVals 0 0 (.slice none 0 0) 0)) := Lib.hid (hRz.alloc _).drew
      have HOWN := Lib.hid hown
      have hc8 := cells8 hB
      clear hown hRz hON hzz
      have hlt : w.heap.size < w.heap.size + 1 := Nat.lt_succ_self _
      go_upto_region 6 with fail
      go_region_held3 (fun wx => wx.cell? ⟨w.heap.size, 0, none⟩ = some (.slice sa sl sc) ∧ wx.cell? ⟨w.heap.size, 1, none⟩ = some (.float .f64 fac) ∧ wx.cell? ⟨w.heap.size, 2, none⟩ = some (.float .f64 zt) ∧ wx.cell? ⟨w.heap.size, 3, none⟩ = some (.int .u32 maxB) ∧ wx.cell? ⟨w.heap.size, 4, none⟩ = some (.int .i64 mr) ∧ wx.cell? ⟨w.heap.size, 5, none⟩ = some (.float .f64 maxZero) ∧ wx.cell? ⟨w.heap.size, 6, none⟩ = some (.int .i64 mex) ∧ wx.cell? ⟨w.heap.size, 7, none⟩ = some (.int .i64 ttl))
        ((refine cells8 ?_; with_reducible (repeat (first | assumption | apply IsBlock.drew | apply IsBlock.alloc | (refine IsBlock.set_ne ?_ (Nat.ne_of_lt hlt) _)))))
        (first
          | (refine step_append_src _ (by rfl) _ _ _ (by rfl) w2.heap.size 63 i63 _ 4 48 Tryz.underlying46 hi hz0 hz1 hz2 rfl (by omega) (.slice ta l.length tc) l.length (sRow (obRow l)) (by rfl) HM.out (.slice (some ⟨wr.heap.size, 0, none⟩) 1 1) 1 (sCl wrS) (by rfl) HSR.out (one_sCl _) (by unfold maxLen; omega) (by omega) HZ1.out ?_
             intro v3 w3 hown3 hgr3 hnil3
             obtain ⟨ra, rc, rfl⟩ := ownsRow_slice hown3
             have hon3 := Only.grown hgr3
             have hge : ∀ j, (Value.slice ta l.length tc).ownBlock = some j → w.heap.size + 2 ≤ j := fun j hj => by have := (HM.out.lt j hj).1; have := HSZ.out; omega
             have hB3 := hon3.isBlock HBA.out (fun e => by have := hge _ e; omega)
             have HR3 := Lib.hid (hon3.isBlock HRA.out (fun e => by have := hge _ e; omega))
             have hO3 : Only (fun _ => False) w w3 := Only.widen HOA.out hon3 (fun j hj => by have := hge j hj; omega)
             have HCALL := Lib.hid (ob_call sa sl sc fac zt maxB mr maxZero mex ttl ra rc l w2.heap.size gs gc bs w3 (hO3.cell HG.out id) (hO3.cell HGS.out id) HF.out (HB.out.mono (fun a v h => hO3.cell h id)) HLEN.out HASC.out HINC.out hown3 hl)
             have HO3 := Lib.hid hO3
             have HZ3 : Hid (w.heap.size + 2 ≤ w3.heap.size) := Lib.hid (by have h1 : w2.heap.size ≤ w3.heap.size := (Nat.le_trans HZ1.out hgr3.size); have := HSZ.out; omega)
             clear hown3 hgr3 hnil3 hon3 hge hO3)
          | (go_at_call 19
             refine HCALL.out.mono ?_
             rintro e w5 ⟨v5, r, rfl, g, cap, rfl, hcell5, hrec5, hrow5, hon5⟩
             have hrow5 := ownsRow_lower (b' := w.heap.size + 2) hrow5 (by have := HO3.out; have := HZ3.out; omega)
             have hB5 := hon5.isBlock hB3 id
             have hz5 := hon5.isBlock HR3.out id
             have HZ5 := Lib.hid hz5
             have HREC := Lib.hid hrec5
             have HROW5 := Lib.hid hrow5
             have HO5 := Lib.hid (HO3.out.trans hon5)
             have HC5 := Lib.hid hcell5
             clear hcell5 hrec5 hrow5 hz5 hon5))
      all_goals
        have zf := HZ5.out.free
        have d0 : w5.cell? ⟨g, 0, none⟩ = some (.int .u64 r.cnt) := HC5.out 0 _ rfl
        have d1 : w5.cell? ⟨g, 1, none⟩ = some (.float .f64 r.sum) := HC5.out 1 _ rfl
        have d2 : w5.cell? ⟨g, 2, none⟩ = some (.slice r.qa r.bks.length r.qc) := HC5.out 2 _ rfl
        have d3 : w5.cell? ⟨g, 3, none⟩ = some (.int .i64 r.created) := HC5.out 3 _ rfl
        have d4 : w5.cell? ⟨g, 4, none⟩ = some (.bool false) := HC5.out 4 _ rfl
        have d5 : w5.cell? ⟨g, 5, none⟩ = some (.int .i32 0) := HC5.out 5 _ rfl
        have d6 : w5.cell? ⟨g, 6, none⟩ = some (.float .f64 0) := HC5.out 6 _ rfl
        have d7 : w5.cell? ⟨g, 7, none⟩ = some (.int .u64 0) := HC5.out 7 _ rfl
        have d8 : w5.cell? ⟨g, 8, none⟩ = some (.slice none 0 0) := HC5.out 8 _ rfl
        have d9 : w5.cell? ⟨g, 9, none⟩ = some (.slice none 0 0) := HC5.out 9 _ rfl
        have d10 : w5.cell? ⟨g, 10, none⟩ = some (.slice (some ⟨r.b1, 0, none⟩) 0 0) := HC5.out 10 _ rfl
        have d11 : w5.cell? ⟨g, 11, none⟩ = some (.slice (some ⟨r.b2, 0, none⟩) 0 0) := HC5.out 11 _ rfl
        have d12 : w5.cell? ⟨g, 12, none⟩ = some (.slice none 0 0) := HC5.out 12 _ rfl
        have z0 := HZ5.out.cell (i := 0) rfl
        have z1 := HZ5.out.cell (i := 1) rfl
        have z2 := HZ5.out.cell (i := 2) rfl
        have z3 := HZ5.out.cell (i := 3) rfl
        have z4 := HZ5.out.cell (i := 4) rfl
        have z5 := HZ5.out.cell (i := 5) rfl
        have z6 := HZ5.out.cell (i := 6) rfl
        have z7 := HZ5.out.cell (i := 7) rfl
        have z8 := HZ5.out.cell (i := 8) rfl
        have z9 := HZ5.out.cell (i := 9) rfl
        have z10 := HZ5.out.cell (i := 10) rfl
        have z11 := HZ5.out.cell (i := 11) rfl
        have z12 := HZ5.out.cell (i := 12) rfl
        go_wp2_with fail
        refine (?_ : ∀ w10, w10 = _ → bodyPost _ _ _ _ _ w10) _ rfl
        intro w10 h10
        have HB10 : IsBlock w10 (w.heap.size + 1) (shC r) := by rw [h10]; exact stored_blk HZ5.out _ _ _ _ _ _ _ _ _ _ _ _ _
        have HON : Only (fun _ => False) w w10 := by rw [h10]; exact stored_only HO5.out (Nat.le_succ _) _ _ _ _ _ _ _ _ _ _ _ _ _
        have HOW : w10.ownsRow (w.heap.size + 2) 43 6 r.q r.bks.length (bRow r.bks) := by rw [h10]; exact stored_row HROW5.out (by omega) _ _ _ _ _ _ _ _ _ _ _ _ _
        clear h10 z0 z1 z2 z3 z4 z5 z6 z7 z8 z9 z10 z11 z12 zf d0 d1 d2 d3 d4 d5 d6 d7 d8 d9 d10 d11 d12
        have y0 := HB10.cell (i := 0) rfl
        have y1 := HB10.cell (i := 1) rfl
        have y2 := HB10.cell (i := 2) rfl
        have y3 := HB10.cell (i := 3) rfl
        have y4 := HB10.cell (i := 4) rfl
        have y5 := HB10.cell (i := 5) rfl
        have y6 := HB10.cell (i := 6) rfl
        have y7 := HB10.cell (i := 7) rfl
        have y8 := HB10.cell (i := 8) rfl
        have y9 := HB10.cell (i := 9) rfl
        have y10 := HB10.cell (i := 10) rfl
        have y11 := HB10.cell (i := 11) rfl
        have y12 := HB10.cell (i := 12) rfl
        exact bodyPost_ret (v := .tuple #[.agg (shC r).toArray, .bool true]) (by simp [results, Tryz.results15, go_sem, y0, y1, y2, y3, y4, y5, y6, y7, y8, y9, y10, y11, y12, shC]) rfl ⟨r, rfl, HREC.out, ownsRow_lower HOW (by omega), HON⟩
end Go.Proofs.YtebjclmbacmilaaGreatDoor
