/- What makeBuckets reckons: how long its lists are, round by round. No program is walked. makeBuckets: the spans and deltas of a map of counters. Conditions: as stated. -/
import Derived.Test.YtebjclmbacmilaaGreatDoorxKb
import Derived.Deep.AppendLies
import Derived.Deep.RegionLaw
import Derived.BigQuiet
namespace Go.Proofs.YtebjclmbacmilaaGreatDoor
open Go.RowKit Go.Maps

theorem mbOf_take (l : List (Int × Int)) (k : Nat) (h : k < l.length) : mbOf (l.take (k + 1)) = (mbOf (l.take k)).key l[k].1 l[k].2 := by
  unfold mbOf
  rw [List.take_succ_eq_append_getElem h, List.foldl_append]
  rfl
theorem MS.fill_ds (t : MS) (n : Nat) : (t.fill n).ds.length = t.ds.length + n := by
  induction n with
  | zero => rfl
  | succ n ih => show ((t.fill n).ds ++ _).length = _; rw [List.length_append, ih]; rfl
theorem MS.fill_sp (t : MS) (n : Nat) : (t.fill n).sp.length = t.sp.length := by
  induction n with
  | zero => rfl
  | succ n ih => show (incLast (t.fill n).sp).length = _; rw [incLast_len, ih]
theorem sp_ne {t : MS} : t.sp ≠ [] ↔ 0 < t.sp.length := by rw [List.length_pos_iff]
theorem MS.delta_sp (t : MS) (c : Int) : (t.delta c).sp.length = t.sp.length := incLast_len _
theorem MS.delta_ds (t : MS) (c : Int) : (t.delta c).ds.length = t.ds.length + 1 := by show (t.ds ++ _).length = _; rw [List.length_append]; rfl
theorem MS.opened_len (t : MS) (d : Int) : (t.opened d).sp.length ≤ t.sp.length + 1 ∧ 0 < (t.opened d).sp.length ∧ (t.opened d).ds.length ≤ t.ds.length + 2 := by
  unfold MS.opened
  by_cases h : t.sp = [] ∨ 2 < d
  · rw [if_pos h]
    show (t.sp ++ _).length ≤ _ ∧ 0 < (t.sp ++ _).length ∧ t.ds.length ≤ _
    rw [List.length_append]
    simp
  · rw [if_neg h, MS.fill_sp, MS.fill_ds]
    have h1 : 0 < t.sp.length := by rw [List.length_pos_iff]; exact fun e => h (.inl e)
    omega
theorem MS.key_len (t : MS) (k c : Int) : (t.key k c).sp.length ≤ t.sp.length + 1 ∧ 0 < (t.key k c).sp.length ∧ (t.key k c).ds.length ≤ t.ds.length + 3 := by
  obtain ⟨h1, h2, h3⟩ := t.opened_len (gapOf k t.next)
  have e1 : (t.key k c).sp.length = (t.opened (gapOf k t.next)).sp.length := MS.delta_sp _ c
  have e2 : (t.key k c).ds.length = (t.opened (gapOf k t.next)).ds.length + 1 := MS.delta_ds _ c
  omega
theorem mbOf_len (l : List (Int × Int)) (k : Nat) (h : k ≤ l.length) : (mbOf (l.take k)).sp.length ≤ k ∧ (mbOf (l.take k)).ds.length ≤ 3 * k ∧ (0 < k → 0 < (mbOf (l.take k)).sp.length) := by
  induction k with
  | zero => exact ⟨Nat.le_refl _, Nat.le_refl _, fun h => absurd h (Nat.lt_irrefl _)⟩
  | succ k ih =>
    obtain ⟨h1, h2, _⟩ := ih (by omega)
    rw [mbOf_take l k h]
    obtain ⟨g1, g2, g3⟩ := (mbOf (l.take k)).key_len l[k].1 l[k].2
    exact ⟨by omega, by omega, fun _ => g2⟩
theorem mbOf_prev (l : List (Int × Int)) (k : Nat) (h : k < l.length) : (mbOf (l.take (k + 1))).next = wrap64 (l[k].1 + 1) := by rw [mbOf_take l k h]; rfl

/-- Between two rounds of the loop over the keys. -/
structure KRel (wb : World) (B bs bd bp : Nat) (l : List (Int × Int)) (k : Nat) (nx : Value) (wr : World) : Prop where
  mb : MBR wr B bs bd bp (mbOf (l.take k))
  nx : nx = .int .i64 (mbOf (l.take k)).next
  only : Only (fun j => j = bs ∨ j = bd ∨ j = bp ∨ B ≤ j) wb wr
/-- A round is done. -/
theorem krel_next {wb wr w5 w6 : World} {B bs bd bp k : Nat} {l : List (Int × Int)} {nx : Value} {key c : Int} (R : KRel wb B bs bd bp l k nx wr) (hk : k < l.length) (hkc : l[k] = (key, c))
    (ho5 : Only (fun j => j = bs ∨ j = bd ∨ j = bp ∨ B ≤ j) wr w5) (h6 : MBR w6 B bs bd bp (((mbOf (l.take k)).opened (gapOf key (mbOf (l.take k)).next)).delta c)) (ho6 : Only (fun j => j = bd ∨ j = bp ∨ B ≤ j) w5 w6) :
    KRel wb B bs bd bp l (k + 1) (.int .i64 (wrap64 (key + 1))) w6 := by
  have e : mbOf (l.take (k + 1)) = (mbOf (l.take k)).key key c := by rw [mbOf_take l k hk, hkc]
  refine ⟨?_, ?_, (R.only.trans ho5).trans (ho6.mono (fun j _ e => .inr e))⟩
  · rw [e]; exact ⟨h6.ex, h6.prev⟩
  · rw [e]; rfl
theorem MBR.kept {w w' : World} {B bs bd bp : Nat} {t : MS} (H : MBR w B bs bd bp t) (ho : Only (fun _ => False) w w') : MBR w' B bs bd bp t := by
  obtain ⟨⟨L, hM, hL, hb⟩, hp⟩ := H
  obtain ⟨v, h1, h2⟩ := hM.vs
  obtain ⟨v', h3, h4⟩ := hM.vd
  have := hM.le
  have := ho.size
  exact ⟨⟨L, { vs := ⟨v, ho.isBlock h1 id, ho.ownsRow h2 (fun _ _ => id)⟩, vd := ⟨v', ho.isBlock h3 id, ho.ownsRow h4 (fun _ _ => id)⟩, vp := ho.isBlock hM.vp id, sp := fun s hs => (hM.sp s hs).kept ho id id id, nd := hM.nd, lt := hM.lt, le := by omega }, hL, hb⟩, hp⟩
/-- The variables of makeBuckets, new. -/
theorem MBR.new {w : World} {bs bd bp : Nat} (h1 : IsBlock w bs [.slice none 0 0]) (h2 : IsBlock w bd [.slice none 0 0]) (h3 : IsBlock w bp [.int .i64 0]) (hn : bs ≠ bd ∧ bs ≠ bp ∧ bd ≠ bp) : MBR w w.heap.size bs bd bp ⟨[], [], 0, 0⟩ :=
  ⟨⟨[], { vs := ⟨_, h1, World.ownsRow_nil _ _ _ _⟩, vd := ⟨_, h2, World.ownsRow_nil _ _ _ _⟩, vp := h3, sp := fun s hs => (by cases hs), nd := List.nodup_nil, lt := ⟨h1.lt, h2.lt, h3.lt, hn.1, hn.2.1, hn.2.2⟩, le := Nat.le_refl _ }, rfl, fun s hs => (by cases hs)⟩, by decide, by decide⟩
/-- What is handed back. -/
theorem MBR.out {w : World} {B bs bd bp : Nat} {t : MS} (H : MBR w B bs bd bp t) : ∃ vs vd, IsBlock w bs [vs] ∧ IsBlock w bd [vd] ∧ (∃ a n c, vs = .slice a n c) ∧ (∃ a n c, vd = .slice a n c) ∧ MOut w B vs vd t := by
  obtain ⟨⟨L, hM, hL, hb⟩, hp⟩ := H
  obtain ⟨v, h1, h2⟩ := hM.vs
  obtain ⟨v', h3, h4⟩ := hM.vd
  obtain ⟨ta, tc, rfl⟩ := ownsRow_slice h2
  obtain ⟨ua, uc, rfl⟩ := ownsRow_slice h4
  exact ⟨_, _, h1, h3, ⟨_, _, _, rfl⟩, ⟨_, _, _, rfl⟩, ⟨⟨L, h2, hL, hM.sp⟩, h4⟩⟩
end Go.Proofs.YtebjclmbacmilaaGreatDoor

namespace Go.Proofs.YtebjclmbacmilaaGreatDoor
open Go.RowKit Go.Maps

theorem info209 : (Tryz.prog.info? 209).map (fun i => (i.zero, i.size, i.bytes)) = some (some (.pointer none), 1, 8) := by kernel_rfl
theorem MOut.lower {w : World} {B B' : Nat} {vs vd : Value} {t : MS} (h : MOut w B vs vd t) (hb : B' ≤ B) : MOut w B' vs vd t := by
  obtain ⟨L, h1, h2, h3⟩ := h.ex
  exact ⟨⟨L, ownsRow_lower h1 hb, h2, fun s hs => ⟨(h3 s hs).g, (h3 s hs).go, (h3 s hs).gl, by have := (h3 s hs).low; omega⟩⟩, ownsRow_lower h.vd hb⟩
theorem MOut.drew {w : World} {B : Nat} {vs vd : Value} {t : MS} (h : MOut w B vs vd t) : MOut w.drew B vs vd t := by
  have ho : Only (fun _ => False) w w.drew := (Only.refl _ w).drew
  obtain ⟨L, h1, h2, h3⟩ := h.ex
  exact ⟨⟨L, ho.ownsRow h1 (fun _ _ => id), h2, fun s hs => (h3 s hs).kept ho id id id⟩, ho.ownsRow h.vd (fun _ _ => id)⟩
theorem kc_len (N : Int → Option Int) (ks : List Int) : (kcOf N ks).length = ks.length := List.length_map _
theorem kc_get (N : Int → Option Int) (ks : List Int) (k : Nat) (h : k < (kcOf N ks).length) (h' : k < ks.length) {x : Int} (hx : N ks[k] = some x) : (kcOf N ks)[k] = (ks[k], x) := by
  simp [kcOf, hx]

/-- A new span. -/
theorem mb_new18 {wr w4 w5 : World} {B bs bd bp : Nat} {t : MS} {L : List Sp} {va : Option Addr} {vc g4 c4 : Nat} {d : Int} (hM : MBk wr B bs bd bp L t.ds t.prev) (hL : L.map (fun s => (s.o, s.l)) = t.sp) (hb : ∀ s ∈ L, 0 ≤ s.l ∧ s.l ≤ t.ds.length) (hp : 0 ≤ t.prev ∧ t.prev ≤ 4611686018427387904)
    (hw4 : w4 = ((((wr.alloc (.cells #[.int .i32 d] 21)).alloc (.cells #[.int .u32 0] 26)).alloc (.cells #[.pointer (some ⟨wr.heap.size, 0, none⟩), .pointer (some ⟨wr.heap.size + 1, 0, none⟩)] 212)).alloc (.cells #[.pointer (some ⟨wr.heap.size + 2, 0, none⟩)] 209)).drew)
    (hvs : IsBlock wr bs [.slice va L.length vc]) (hrs : wr.ownsRow B 209 1 (.slice va L.length vc) L.length (ptrs L)) (hgr : w4.grownBy w5 (Value.slice va L.length vc).ownBlock) (h5 : w5.ownsRow B 209 1 (.slice (some ⟨g4, 0, none⟩) (L.length + 1) c4) (L.length + 1) (ptrs L ++ [.pointer (some ⟨wr.heap.size + 2, 0, none⟩)])) :
    MBR (w5.setCell ⟨bs, 0, none⟩ (.slice (some ⟨g4, 0, none⟩) (L.length + 1) c4)) B bs bd bp (t.new d) ∧ (t.new d).sp ≠ [] ∧ Only (fun j => j = bs ∨ B ≤ j) wr (w5.setCell ⟨bs, 0, none⟩ (.slice (some ⟨g4, 0, none⟩) (L.length + 1) c4)) := by
  have ho4 : Only (fun _ => False) wr w4 := by rw [hw4]; exact (((((Only.refl _ wr).alloc _).alloc _).alloc _).alloc _).drew
  have s1 : (wr.alloc (.cells #[.int .i32 d] 21)).heap.size = wr.heap.size + 1 := World.size_alloc _ _
  have s2 : ((wr.alloc (.cells #[.int .i32 d] 21)).alloc (.cells #[.int .u32 0] 26)).heap.size = wr.heap.size + 2 := by simp
  have ho34 : ∀ o, Only (fun _ => False) (((wr.alloc (.cells #[.int .i32 d] 21)).alloc (.cells #[.int .u32 0] 26)).alloc o) w4 → True := fun _ _ => trivial
  have k1 : IsT w4 wr.heap.size [.int .i32 d] 21 := by
    rw [hw4]
    exact (IsT.new wr [.int .i32 d] 21).kept ((((Only.refl (fun _ => False) _).alloc _).alloc _).alloc _).drew id
  have k2 : IsT w4 (wr.heap.size + 1) [.int .u32 0] 26 := by
    rw [hw4, ← s1]
    exact (IsT.new (wr.alloc (.cells #[.int .i32 d] 21)) [.int .u32 0] 26).kept (((Only.refl (fun _ => False) _).alloc _).alloc _).drew id
  have k3 : IsT w4 (wr.heap.size + 2) [.pointer (some ⟨wr.heap.size, 0, none⟩), .pointer (some ⟨wr.heap.size + 1, 0, none⟩)] 212 := by
    rw [hw4]
    have h := (IsT.new ((wr.alloc (.cells #[.int .i32 d] 21)).alloc (.cells #[.int .u32 0] 26)) [.pointer (some ⟨wr.heap.size, 0, none⟩), .pointer (some ⟨wr.heap.size + 1, 0, none⟩)] 212)
    rw [s2] at h
    exact h.kept ((Only.refl (fun _ => False) _).alloc _).drew id
  exact mb_new hM hL hb hp ho4 k1 k2 k3 ⟨by omega, by omega, by omega⟩ hvs hrs hgr h5

set_option maxRecDepth 100000 in
set_option maxHeartbeats 3200000 in
theorem makeBuckets_any (c off n : Nat) (h : Option Nat) (S : Nat → Prop) (N : Int → Option Int) (ks : List Int) (w : World) (hb : w.cell? ⟨c, off, none⟩ = some (.map h)) (H : NAt w S h n N) (hn : n ≤ 268435456) (hS : ∀ k, S k → k < w.heap.size) (hks : KeysOf N ks) (hkl : ks.length ≤ n) (hN : ∀ k x, N k = some x → 0 ≤ x ∧ x ≤ 4611686018427387904) :
    Calls Tryz.prog 257 #[.pointer (some ⟨c, off, none⟩)] w fun e w' => ∃ vs vd, e = .returned (.tuple #[vs, vd]) ∧ MOut w' w.heap.size vs vd (mbOf (kcOf N ks)) ∧ Only (fun _ => False) w w' := by
  obtain ⟨i9, hi9, hz90, hz91, hz92⟩ := info_parts info209
  have hcl := cell_lt hb
  have hsk := sortedI_keys hks
  have HK := Lib.hid (mbKeys c off n h S N ks w hb H hn hS hks hkl)
  have HH := Lib.hid (And.intro hb (And.intro H (And.intro hS (And.intro hks (And.intro hN hsk)))))
  clear hb H hS hks hN hsk
  go_enter Tryz.func257, Tryz.ntmps257
  go_wp2_with fail
  refine HK.out.mono ?_
  rintro e w1 ⟨rfl, ⟨M, hM, hV⟩, ho1⟩
  obtain ⟨⟨v, hv, hrow⟩, hVl, hVe⟩ := hV
  obtain ⟨ta, tc, rfl⟩ := ownsRow_slice hrow
  have cv := hv.cell (i := 0) rfl
  have HS := Lib.hid (sortInts_any M (.slice ta ks.length tc) ks w1 hrow (by omega))
  have HO1 := Lib.hid ho1
  have HV := Lib.hid (And.intro hv (fun j hj => (hrow.lt j hj).1))
  clear hv hrow ho1 HK
  go_wp2_with fail
  refine HS.out.mono ?_
  rintro e w2 ⟨rfl, hrow2, ho2⟩
  have hv2 := ho2.isBlock HV.out.1 (fun e => by have := HV.out.2 _ e; omega)
  have cv2 := hv2.cell (i := 0) rfl
  have HR2 : Hid (w2.ownsRow M 3 1 (.slice ta ks.length tc) ks.length (i64s ks) ∧ Only (fun _ => False) w w2) := Lib.hid ⟨by rw [HH.out.2.2.2.2.2] at hrow2; exact hrow2, Only.widen HO1.out ho2 (fun j hj => by have := HV.out.2 j hj; omega)⟩
  have HV2 := Lib.hid hv2
  clear hrow2 ho2 HS hv2 HO1
  by_cases hl0 : ks.length = 0
  · have hks0 : ks = [] := List.length_eq_zero_iff.1 hl0
    subst hks0
    have HF : Hid (MOut w2 w.heap.size (.slice none 0 0) (.slice none 0 0) (mbOf (kcOf N [])) ∧ Only (fun _ => False) w w2) := Lib.hid ⟨⟨⟨[], World.ownsRow_nil _ _ _ _, rfl, fun s hs => (by cases hs)⟩, World.ownsRow_nil _ _ _ _⟩, HR2.out.2⟩
    go_wp2_with fail
    exact bodyPost_ret (v := .tuple #[.slice none 0 0, .slice none 0 0]) (by simp [results, Tryz.results257, go_sem]) rfl ⟨_, _, rfl, HF.out⟩
  · obtain ⟨len, hlen⟩ : ∃ len, len = ks.length := ⟨_, rfl⟩
    have HLN := Lib.hid hlen
    rw [← hlen] at hkl hl0 cv2 HR2
    clear hlen
    obtain ⟨g, rfl⟩ : ∃ g, ta = some ⟨g, 0, none⟩ := by
      rcases HR2.out.1.2 with ⟨_, h0⟩ | ⟨g, cap, cur, hvv, _⟩
      · omega
      · exact ⟨g, by simpa using congrArg (fun v => match v with | Value.slice a _ _ => a | _ => none) hvv⟩
    have hgl : g < w2.heap.size := (HR2.out.1.lt g rfl).2
    have hl1 : ((len : Nat) : Int) ≠ 0 := by omega
    have hl2 : ((len : Nat) : Int) ≤ 268435456 := by omega
    have hl3 : (((len : Nat) : Int) == 0) = false := beq_eq_false_iff_ne.2 hl1
    have hz2 := HR2.out.2.size
    have HW3 : Hid (IsBlock (((w2.alloc (.cells #[.slice none 0 0] 173)).alloc (.cells #[.slice none 0 0] 33)).alloc (.cells #[.int .i64 0] 2)) w2.heap.size [.slice none 0 0] ∧ IsBlock (((w2.alloc (.cells #[.slice none 0 0] 173)).alloc (.cells #[.slice none 0 0] 33)).alloc (.cells #[.int .i64 0] 2)) (w2.heap.size + 1) [.slice none 0 0] ∧
        IsBlock (((w2.alloc (.cells #[.slice none 0 0] 173)).alloc (.cells #[.slice none 0 0] 33)).alloc (.cells #[.int .i64 0] 2)) (w2.heap.size + 2) [.int .i64 0] ∧ Only (fun _ => False) w2 (((w2.alloc (.cells #[.slice none 0 0] 173)).alloc (.cells #[.slice none 0 0] 33)).alloc (.cells #[.int .i64 0] 2)) ∧
        (((w2.alloc (.cells #[.slice none 0 0] 173)).alloc (.cells #[.slice none 0 0] 33)).alloc (.cells #[.int .i64 0] 2)).heap.size = w2.heap.size + 3) := Lib.hid ⟨((IsBlock.new w2 [.slice none 0 0] 173).alloc _).alloc _, IsBlock.alloc (blk_new' _ [.slice none 0 0] 33 _ (by simp)) _, blk_new' _ [.int .i64 0] 2 _ (by simp), (((Only.refl _ w2).alloc _).alloc _).alloc _, by simp⟩
    have cv3 : (((w2.alloc (.cells #[.slice none 0 0] 173)).alloc (.cells #[.slice none 0 0] 33)).alloc (.cells #[.int .i64 0] 2)).cell? ⟨w.heap.size, 0, none⟩ = some (.slice (some ⟨g, 0, none⟩) len tc) := HW3.out.2.2.2.1.cell cv2 id
    go_wp2_with fail
    obtain ⟨w3, hw3⟩ : ∃ w3, w3 = ((w2.alloc (.cells #[.slice none 0 0] 173)).alloc (.cells #[.slice none 0 0] 33)).alloc (.cells #[.int .i64 0] 2) := ⟨_, rfl⟩
    rw [← hw3] at HW3 cv3 ⊢
    clear hw3 cv2 cv
    go_loopw [8, 27] (fun nx i wr => ∃ (k : Nat), k ≤ len ∧ i = .int .i64 k ∧ KRel w3 (w2.heap.size + 3) w2.heap.size (w2.heap.size + 1) (w2.heap.size + 2) (kcOf N ks) k nx wr) (fun _ i _ => len - (intOf i).toNat)
    case atStart =>
      refine ⟨0, Nat.zero_le _, rfl, ?_, rfl, Only.refl _ _⟩
      have h := MBR.new HW3.out.1 HW3.out.2.1 HW3.out.2.2.1 ⟨by omega, by omega, by omega⟩
      rw [HW3.out.2.2.2.2] at h
      exact h
    case round =>
      obtain ⟨k, hk, rfl, hR⟩ := hrel
      obtain ⟨hmb, hnx, hon⟩ := hR
      subst hnx
      have hw3r : Only (fun j => w2.heap.size ≤ j) w wr := ((HR2.out.2.trans HW3.out.2.2.2.1).mono (fun _ _ e => e.elim)).trans (hon.mono (fun j _ e => by rcases e with e | e | e | e <;> omega))
      by_cases hkn : k < len
      · have hk0 : (0 : Int) ≤ (k : Int) := by omega
        have hk1 : (k : Int) < (len : Int) := by omega
        have hkk : k < ks.length := by have := HLN.out; omega
        have hcell : wr.cell? ⟨g, k, none⟩ = some (.int .i64 ks[k]) := by
          have h := HR2.out.1.cells (g := g) rfl k (.int .i64 ks[k]) (by simp [i64s, hkk])
          rw [show (⟨g, 0, none⟩ : Addr).add k = ⟨g, k, none⟩ from by cases k <;> simp [Addr.add]] at h
          exact hon.cell (HW3.out.2.2.2.1.cell h id) (fun e => by dsimp only at e; rcases e with e | e | e | e <;> omega)
        have hbr : wr.cell? ⟨c, off, none⟩ = some (.map h) := hw3r.cell HH.out.1 (fun e => by dsimp only at e; omega)
        have hNr : NAt wr S h n N := HH.out.2.1.kept hw3r (fun j hj e => by have := HH.out.2.2.1 j hj; omega)
        have hkm := (HH.out.2.2.2.1.2 ks[k]).1 (List.getElem_mem hkk)
        obtain ⟨x, hx⟩ := Option.isSome_iff_exists.1 hkm.2
        have hxb := HH.out.2.2.2.2.1 _ _ hx
        have hkc : (kcOf N ks)[k]'(by rw [kc_len]; exact hkk) = (ks[k], x) := kc_get N ks k _ hkk hx
        obtain ⟨kx, hkx⟩ : ∃ kx, kx = ks[k] := ⟨_, rfl⟩
        rw [← hkx] at hcell hkm hx hkc
        have hld := load_any c off h S n N kx wr hkm.1 hbr hNr
        rw [hkm.2] at hld
        have HLD := Lib.hid hld
        have HX := Lib.hid (And.intro hx (And.intro hkc (And.intro hkx hon)))
        obtain ⟨hx0, hx1⟩ := hxb
        obtain ⟨t, ht⟩ : ∃ t, t = mbOf ((kcOf N ks).take k) := ⟨_, rfl⟩
        rw [← ht] at hmb ⊢
        obtain ⟨tn, htn⟩ : ∃ tn, tn = t.next := ⟨_, rfl⟩
        rw [← htn]
        obtain ⟨d, hd⟩ : ∃ d, d = gapOf kx tn := ⟨_, rfl⟩
        have hd' : wrap32 (wrap64 (kx - tn)) = d := hd.symm
        have HMB := Lib.hid hmb
        have HT := Lib.hid (And.intro ht (And.intro htn hd))
        clear hmb hNr hbr hon hw3r hld hx hkc hkx hkm ht htn hd
        go_wp2_with fail
        refine HLD.out.mono ?_
        rintro e w' ⟨hw', v, rfl, hv⟩
        rw [hw']
        clear hw' w' HLD
        obtain ⟨g', rfl, _, hg', _⟩ := hv x HX.out.1
        have cg := hg'.cell (i := 0) rfl
        clear hv hg'
        have htl := mbOf_len (kcOf N ks) k (by rw [kc_len]; omega)
        rw [← HT.out.1] at htl
        obtain ⟨tl1, tl2, tl3⟩ := htl
        have hd32 : -2147483648 ≤ d ∧ d ≤ 2147483647 := by rw [← hd']; unfold wrap32; omega
        go_upto_region 17 with fail
        rw [hd']
        clear hd'
        go_cut [49] from 44 to 48 (fun v wx => v = .bool (decide (k = 0 ∨ 2 < d)) ∧ wx = wr)
        case first =>
          by_cases hk00 : k = 0
          · subst hk00
            go_wp2_with fail
            go_meet
            exact ⟨by simp, rfl⟩
          · have hk01 : ¬ (k : Int) = 0 := by omega
            by_cases hd2 : 2 < d
            · go_wp2_with fail
              go_meet
              exact ⟨by simp [hd2], rfl⟩
            · go_wp2_with fail
              go_meet
              exact ⟨by rw [show ((k : Int) == 0) = false from beq_eq_false_iff_ne.2 hk01, decide_eq_false (show ¬ (k = 0 ∨ 2 < d) by omega)], rfl⟩
        obtain ⟨rfl, hwx⟩ := hcut
        subst hwx
        go_upto_if 49 with fail
        go_cut [] from 49 to 63 (fun wx => MBR wx (w2.heap.size + 3) w2.heap.size (w2.heap.size + 1) (w2.heap.size + 2) (t.opened d) ∧ Only (fun j => j = w2.heap.size ∨ j = w2.heap.size + 1 ∨ j = w2.heap.size + 2 ∨ w2.heap.size + 3 ≤ j) wc wx)
        case first =>
          by_cases hway : k = 0 ∨ 2 < d
          · have hdc : decide (k = 0 ∨ 2 < d) = true := decide_eq_true hway
            rw [hdc]
            have hto : t.opened d = t.new d := if_pos (hway.imp (fun e => List.length_eq_zero_iff.1 (by omega)) id)
            have HTO := Lib.hid hto
            clear hto
            obtain ⟨⟨L, hM, hL, hb⟩, hp⟩ := HMB.out
            obtain ⟨vs, hvs, hrs⟩ := hM.vs
            obtain ⟨va, vc, rfl⟩ := ownsRow_slice hrs
            obtain ⟨m, hm⟩ : ∃ m, m = L.length := ⟨_, rfl⟩
            have hml : m ≤ 268435456 := by have h := congrArg List.length hL; rw [List.length_map] at h; omega
            have hBle := hM.le
            have hne : (Value.slice va m vc).ownBlock ≠ some w2.heap.size := fun e => by rw [hm] at e; have := (hrs.lt _ e).1; omega
            have HM := Lib.hid (And.intro hm (And.intro hM (And.intro hL (And.intro hb (And.intro hp (And.intro hvs hrs))))))
            rw [← hm] at hvs hrs
            have HV := Lib.hid hvs
            have HRW := Lib.hid hrs
            have f0 : wc.cell? ⟨w2.heap.size, 0, none⟩ = some (.slice va m vc) := hvs.cell rfl
            have f1 : (wc.alloc (.cells #[.int .i32 d] 21)).cell? ⟨w2.heap.size, 0, none⟩ = some (.slice va m vc) := cell_past f0 _
            have f2 : ((wc.alloc (.cells #[.int .i32 d] 21)).alloc (.cells #[.int .u32 0] 26)).cell? ⟨w2.heap.size, 0, none⟩ = some (.slice va m vc) := cell_past f1 _
            have f3 : (((wc.alloc (.cells #[.int .i32 d] 21)).alloc (.cells #[.int .u32 0] 26)).alloc (.cells #[.pointer (some ⟨wc.heap.size, 0, none⟩), .pointer (some ⟨wc.heap.size + 1, 0, none⟩)] 212)).cell? ⟨w2.heap.size, 0, none⟩ = some (.slice va m vc) := cell_past f2 _
            have f4 : ((((wc.alloc (.cells #[.int .i32 d] 21)).alloc (.cells #[.int .u32 0] 26)).alloc (.cells #[.pointer (some ⟨wc.heap.size, 0, none⟩), .pointer (some ⟨wc.heap.size + 1, 0, none⟩)] 212)).alloc (.cells #[.pointer (some ⟨wc.heap.size + 2, 0, none⟩)] 209)).cell? ⟨w2.heap.size, 0, none⟩ = some (.slice va m vc) := cell_past f3 _
            have HNE := Lib.hid hne
            clear hM hL hb hp hvs hrs hm hne hd32 tl3
            go_wp2_with fail
            go_region_law
              (first
                | (refine step_append_lies _ (by rfl) _ _ _ (by rfl) (w2.heap.size + 3) 209 i9 _ 1 8 Tryz.underlying173 hi9 hz90 hz91 hz92 rfl (by omega) (.slice va m vc) m (ptrs L) (by rfl) ((show Only (fun _ => False) wc _ by repeat (first | exact Only.refl _ _ | apply Only.drew | apply Only.alloc)).ownsRow HRW.out (fun _ _ => id)) ⟨wc.heap.size + 3, 0, none⟩ 1 1 [.pointer (some ⟨wc.heap.size + 2, 0, none⟩)] (by rfl) (by rfl) (cells_of (IsBlock.drew (blk_new' _ [.pointer (some ⟨wc.heap.size + 2, 0, none⟩)] 209 _ (by simp)))) (one_one _ rfl) (by omega) (by unfold maxLen; omega) (by omega) (by simp; omega) (wc.heap.size + 4) (by simp) ?_
                   intro g4 c4 w4 hown4 hgr4 hat4 hlt4
                   have hb4 := IsBlock.grown ((show Only (fun _ => False) wc _ by repeat (first | exact Only.refl _ _ | apply Only.drew | apply Only.alloc)).isBlock HV.out id) hgr4 HNE.out
                   have o04 := hb4.cell (i := 0) rfl
                   have fo4 := hb4.free 0)
                | (go_simp; go_at_call 252; refine (ofI32_any _ _).mono ?_; rintro e w' ⟨rfl, rfl⟩)
                | (go_simp; go_at_call 258; refine (ofU32_any _ _).mono ?_; rintro e w' ⟨rfl, rfl⟩))
            all_goals
              have HF : Hid (MBR (w4.setCell ⟨w2.heap.size, 0, none⟩ (.slice (some ⟨g4, 0, none⟩) (m + 1) c4)) (w2.heap.size + 3) w2.heap.size (w2.heap.size + 1) (w2.heap.size + 2) (t.new d) ∧ Only (fun j => j = w2.heap.size ∨ j = w2.heap.size + 1 ∨ j = w2.heap.size + 2 ∨ w2.heap.size + 3 ≤ j) wc (w4.setCell ⟨w2.heap.size, 0, none⟩ (.slice (some ⟨g4, 0, none⟩) (m + 1) c4))) := Lib.hid (by
                obtain ⟨hm, hM, hL, hb, hp, hvs, hrs⟩ := HM.out
                subst hm
                have h := mb_new18 hM hL hb hp rfl hvs hrs hgr4 hown4
                exact ⟨h.1, h.2.2.mono (fun j _ e => e.elim .inl (fun e => .inr (.inr (.inr e))))⟩)
              clear hown4 hgr4 hat4 hlt4 hb4 o04 fo4
              go_wp2_with fail
              go_meet
              exact ⟨by rw [HTO.out]; exact HF.out.1, HF.out.2⟩
          · have hdc : decide (k = 0 ∨ 2 < d) = false := decide_eq_false hway
            rw [hdc]
            have hk00 : 0 < k := by omega
            have hd2 : ¬ 2 < d := fun e => hway (.inr e)
            have hto : t.opened d = t.fill d.toNat := if_neg (fun e => e.elim (fun e => by have := tl3 hk00; rw [e] at this; exact absurd this (by decide)) hd2)
            have hsp : ∀ y, (t.fill y).sp ≠ [] := fun y => sp_ne.2 (by rw [MS.fill_sp]; exact tl3 hk00)
            have HSP := Lib.hid (And.intro hto hsp)
            clear hto hsp hway hdc tl3
            go_wp2_with fail
            go_loopw [59] (fun cv wq => ∃ y : Nat, y ≤ d.toNat ∧ cv = .int .i32 y ∧ MBR wq (w2.heap.size + 3) w2.heap.size (w2.heap.size + 1) (w2.heap.size + 2) (t.fill y) ∧ Only (fun j => j = w2.heap.size ∨ j = w2.heap.size + 1 ∨ j = w2.heap.size + 2 ∨ w2.heap.size + 3 ≤ j) wc wq) (fun cv _ => d.toNat - (intOf cv).toNat)
            case atStart => exact ⟨0, Nat.zero_le _, rfl, HMB.out, Only.refl _ _⟩
            case round =>
              obtain ⟨y, hy, rfl, hmy, hoy⟩ := hrel
              have hy0 : (0 : Int) ≤ (y : Int) := by omega
              by_cases hyd : y < d.toNat
              · have hy1 : (y : Int) < d := by omega
                have HC := Lib.hid (mbDelta_any _ _ _ _ (t.fill y) 0 _ hmy (HSP.out.2 y) (by decide) (by rw [MS.fill_ds]; omega) (by rw [MS.fill_sp]; omega))
                have HY := Lib.hid hoy
                clear hmy hoy
                go_wp2_with fail
                refine HC.out.mono ?_
                rintro e w5 ⟨rfl, h5, ho5⟩
                have HNX : Hid (MBR w5 (w2.heap.size + 3) w2.heap.size (w2.heap.size + 1) (w2.heap.size + 2) (t.fill (y + 1)) ∧ Only (fun j => j = w2.heap.size ∨ j = w2.heap.size + 1 ∨ j = w2.heap.size + 2 ∨ w2.heap.size + 3 ≤ j) wc w5) := Lib.hid ⟨h5, HY.out.trans (ho5.mono (fun j _ e => .inr e))⟩
                clear h5 ho5 HC
                go_wp2_with fail
                go_roundw
                case rel => exact ⟨y + 1, hyd, by go_num, HNX.out⟩
                case measure => simp [intOf]; omega
              · have hy1 : ¬ (y : Int) < d := by omega
                have hye : y = d.toNat := by omega
                have HF := Lib.hid (And.intro hmy hoy)
                clear hmy hoy
                go_wp2_with fail
                go_meet
                exact ⟨by rw [HSP.out.1, ← hye]; exact HF.out.1, HF.out.2⟩
        obtain ⟨hopen, honx⟩ := hcut
        have hol := t.opened_len d
        have HON := Lib.hid honx
        have HDE := Lib.hid (mbDelta_any _ _ _ _ (t.opened d) x _ hopen (sp_ne.2 hol.2.1) ⟨hx0, by omega⟩ (by omega) (by omega))
        clear hopen honx
        go_wp2_with fail
        refine HDE.out.mono ?_
        rintro e w6 ⟨rfl, h6, ho6⟩
        have HNX := Lib.hid (krel_next (l := kcOf N ks) (k := k) (key := kx) (c := x) ⟨by rw [← HT.out.1]; exact HMB.out, rfl, HX.out.2.2.2⟩ (by rw [kc_len]; exact hkk) HX.out.2.1 HON.out (by rw [← HT.out.1, ← HT.out.2.1, ← HT.out.2.2]; exact h6) ho6)
        clear h6 ho6 HDE
        go_wp2_with fail
        go_roundw
        case rel => exact ⟨k + 1, hkn, by go_num, HNX.out⟩
        case measure => simp [intOf]; omega
      · have hke : k = len := by omega
        subst hke
        have hk1 : ¬ (k : Int) < (k : Int) := by omega
        obtain ⟨vs, vd, hvs, hvd, ⟨a1, n1, c1, rfl⟩, ⟨a2, n2, c2, rfl⟩, hmo⟩ := hmb.out
        have e1 := hvs.cell (i := 0) rfl
        have e2 := hvd.cell (i := 0) rfl
        have hz2r : w.heap.size ≤ w2.heap.size + 3 := by omega
        have HF : Hid (MOut wr.drew w.heap.size (.slice a1 n1 c1) (.slice a2 n2 c2) (mbOf (kcOf N ks)) ∧ Only (fun _ => False) w wr.drew) := Lib.hid ⟨by
          have h := (hmo.lower hz2r).drew
          rw [show (kcOf N ks).take k = kcOf N ks from List.take_of_length_le (by rw [kc_len, ← HLN.out]; exact Nat.le_refl _)] at h
          exact h, (Only.widen (Only.refl (fun _ => False) w) hw3r (fun j e => by omega)).drew⟩
        clear hmo hvs hvd hmb hon hw3r
        go_wp2_with fail
        go_region
        go_wp2_with fail
        go_ret2
        exact ⟨_, _, rfl, HF.out⟩
end Go.Proofs.YtebjclmbacmilaaGreatDoor
