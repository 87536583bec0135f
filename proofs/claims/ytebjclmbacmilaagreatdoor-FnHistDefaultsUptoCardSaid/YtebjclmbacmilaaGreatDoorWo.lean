/- Contract of (*histogram).Write where there are native buckets and no classic ones. Conditions: as stated. -/
import Derived.Test.YtebjclmbacmilaaGreatDoorWn
import Derived.Test.YtebjclmbacmilaaGreatDoorWr
import Derived.Test.YtebjclmbacmilaaGreatDoorWq
namespace Go.Proofs.YtebjclmbacmilaaGreatDoor
open Go.RowKit Go.MuLone Go.Maps

theorem mbSide (i : Bool) (off cc bc m : Nat) (hoff : offOf i = off) (t : CSt) (Z : Nat → Prop) (w : World) (Hc : IsBlock w cc (t.cells bc)) (H : NSt w Z t.pos t.neg m) (hZ : ∀ k, Z k → k < w.heap.size) (hm : m ≤ 268435456) :
    Calls Tryz.prog 257 #[.pointer (some ⟨cc, off, none⟩)] w fun e w' => ∃ vs vd mt, e = .returned (.tuple #[vs, vd]) ∧ MOut w' w.heap.size vs vd mt ∧ mt.sp.length ≤ m ∧ mt.ds.length ≤ 3 * m ∧ Only (fun _ => False) w w' := by
  subst hoff
  obtain ⟨Sp, Sn, np, nn, Np, Nn, q1, q2, q3, q4, q5, q6, q7, q8⟩ := H
  cases i
  · obtain ⟨ks, hks, hkl⟩ := keys_at q1
    refine (makeBuckets_any cc 7 np t.pos Sp Np ks w (Hc.cell rfl) q1 (by omega) (fun k hk => hZ k (q6 k (.inl hk))) hks hkl (fun k x hx => by have := q7 k x hx; omega)).mono ?_
    rintro e w' ⟨vs, vd, rfl, h1, h2⟩
    have hl := mbOf_len (kcOf Np ks) (kcOf Np ks).length (Nat.le_refl _)
    rw [List.take_length, kc_len] at hl
    exact ⟨vs, vd, _, rfl, h1, by omega, by omega, h2⟩
  · obtain ⟨ks, hks, hkl⟩ := keys_at q2
    refine (makeBuckets_any cc 8 nn t.neg Sn Nn ks w (Hc.cell rfl) q2 (by omega) (fun k hk => hZ k (q6 k (.inr hk))) hks hkl (fun k x hx => by have := q8 k x hx; omega)).mono ?_
    rintro e w' ⟨vs, vd, rfl, h1, h2⟩
    have hl := mbOf_len (kcOf Nn ks) (kcOf Nn ks).length (Nat.le_refl _)
    rw [List.take_length, kc_len] at hl
    exact ⟨vs, vd, _, rfl, h1, by omega, by omega, h2⟩

theorem ownsRow_one {w : World} {b g : Nat} {v : Value} {T : TypeId} (h : IsT w g [v] T) (hb : b ≤ g) : w.ownsRow b T 1 (.slice (some ⟨g, 0, none⟩) 1 1) 1 [v] :=
  ⟨rfl, .inr ⟨g, 1, #[v], rfl, hb, h, Nat.le_refl _, by unfold maxLen; omega, rfl, rfl⟩⟩
/-- The span that says so is made. -/
theorem noop_out {wi wx : World} {gq B : Nat} {vps vd : Value} {tp : MS} (hwx : wx = ((((wi.alloc (.cells #[.int .i32 0] 21)).alloc (.cells #[.int .u32 0] 26)).alloc (.cells #[.pointer (some ⟨wi.heap.size, 0, none⟩), .pointer (some ⟨wi.heap.size + 1, 0, none⟩)] 212)).alloc (.cells #[.pointer (some ⟨wi.heap.size + 2, 0, none⟩)] 209)).setCell ⟨gq, 9, none⟩ (.slice (some ⟨wi.heap.size + 3, 0, none⟩) 1 1))
    (hg : gq < B) (hB : B ≤ wi.heap.size) (h : MOut wi B vps vd tp) : MOut wx B (.slice (some ⟨wi.heap.size + 3, 0, none⟩) 1 1) vd { tp with sp := [(0, 0)] } ∧ Only (fun k => k = gq) wi wx := by
  have s1 : (wi.alloc (.cells #[.int .i32 0] 21)).heap.size = wi.heap.size + 1 := World.size_alloc _ _
  have s2 : ((wi.alloc (.cells #[.int .i32 0] 21)).alloc (.cells #[.int .u32 0] 26)).heap.size = wi.heap.size + 2 := by simp
  have s3 : (((wi.alloc (.cells #[.int .i32 0] 21)).alloc (.cells #[.int .u32 0] 26)).alloc (.cells #[.pointer (some ⟨wi.heap.size, 0, none⟩), .pointer (some ⟨wi.heap.size + 1, 0, none⟩)] 212)).heap.size = wi.heap.size + 3 := by simp
  have hw : Only (fun k => k = gq) wi wx := by rw [hwx]; exact (((((Only.refl (fun k => k = gq) wi).alloc _).alloc _).alloc _).alloc _).setCell (p := ⟨gq, 9, none⟩) (.inl rfl) _
  have t1 : Only (fun k => k = gq) (wi.alloc (.cells #[.int .i32 0] 21)) wx := by rw [hwx]; exact ((((Only.refl (fun k => k = gq) _).alloc _).alloc _).alloc _).setCell (p := ⟨gq, 9, none⟩) (.inl rfl) _
  have t2 : Only (fun k => k = gq) ((wi.alloc (.cells #[.int .i32 0] 21)).alloc (.cells #[.int .u32 0] 26)) wx := by rw [hwx]; exact (((Only.refl (fun k => k = gq) _).alloc _).alloc _).setCell (p := ⟨gq, 9, none⟩) (.inl rfl) _
  have t3 : Only (fun k => k = gq) (((wi.alloc (.cells #[.int .i32 0] 21)).alloc (.cells #[.int .u32 0] 26)).alloc (.cells #[.pointer (some ⟨wi.heap.size, 0, none⟩), .pointer (some ⟨wi.heap.size + 1, 0, none⟩)] 212)) wx := by rw [hwx]; exact ((Only.refl (fun k => k = gq) _).alloc _).setCell (p := ⟨gq, 9, none⟩) (.inl rfl) _
  have t4 : Only (fun k => k = gq) ((((wi.alloc (.cells #[.int .i32 0] 21)).alloc (.cells #[.int .u32 0] 26)).alloc (.cells #[.pointer (some ⟨wi.heap.size, 0, none⟩), .pointer (some ⟨wi.heap.size + 1, 0, none⟩)] 212)).alloc (.cells #[.pointer (some ⟨wi.heap.size + 2, 0, none⟩)] 209)) wx := by rw [hwx]; exact (Only.refl (fun k => k = gq) _).setCell (p := ⟨gq, 9, none⟩) (.inl rfl) _
  have k1 : IsT wx wi.heap.size [.int .i32 0] 21 := (IsT.new wi [.int .i32 0] 21).kept t1 (by omega)
  have k2 : IsT wx (wi.heap.size + 1) [.int .u32 0] 26 := by
    have h := IsT.new (wi.alloc (.cells #[.int .i32 0] 21)) [.int .u32 0] 26
    rw [s1] at h
    exact h.kept t2 (by omega)
  have k3 : IsT wx (wi.heap.size + 2) [.pointer (some ⟨wi.heap.size, 0, none⟩), .pointer (some ⟨wi.heap.size + 1, 0, none⟩)] 212 := by
    have h := IsT.new ((wi.alloc (.cells #[.int .i32 0] 21)).alloc (.cells #[.int .u32 0] 26)) [.pointer (some ⟨wi.heap.size, 0, none⟩), .pointer (some ⟨wi.heap.size + 1, 0, none⟩)] 212
    rw [s2] at h
    exact h.kept t3 (by omega)
  have k4 : IsT wx (wi.heap.size + 3) [.pointer (some ⟨wi.heap.size + 2, 0, none⟩)] 209 := by
    have h := IsT.new (((wi.alloc (.cells #[.int .i32 0] 21)).alloc (.cells #[.int .u32 0] 26)).alloc (.cells #[.pointer (some ⟨wi.heap.size, 0, none⟩), .pointer (some ⟨wi.heap.size + 1, 0, none⟩)] 212)) [.pointer (some ⟨wi.heap.size + 2, 0, none⟩)] 209
    rw [s3] at h
    exact h.kept t4 (by omega)
  have hk := h.kept hw (fun k hk => by omega)
  refine ⟨⟨⟨[⟨wi.heap.size + 2, wi.heap.size, wi.heap.size + 1, 0, 0⟩], ownsRow_one k4 (by omega), rfl, fun s hs => ?_⟩, hk.vd⟩, hw⟩
  rw [List.mem_singleton] at hs
  subst hs
  exact ⟨k3, k1, k2, by dsimp only; omega⟩

theorem SN.relocked {w0 : World} {p : Pl} {s : HSt} {Z : Bool → Nat → Prop} {m z7 z8 out : Nat} {os : List Value} {q : HisPl} {A : Nat} {vals : List Value} {wr w' : World} (H : SN w0 p s Z m z7 z8 out os q A vals wr) (ho : Only (fun k => k = q.g ∨ k = p.h) wr w') (hg : IsBlock w' q.g vals)
    (hh : IsBlock w' p.h ((((s.cells p).set 7 (.slice none 0 0)).set 3 (.int .i32 1)).set 0 (.int .u64 (idxVal s.n (!s.hot))))) (hN : ∀ k, (∃ i, k = p.c i) ∨ k = p.ex ∨ k = z7 ∨ k = z8 ∨ k = out ∨ (∃ i, Z i k) → k ≠ p.h) : SN w0 p s Z m z7 z8 out os q A vals w' := by
  have hq := H.ge.1
  have hw := H.aw
  have hph := H.lo p.h (.inl rfl)
  have hn : ∀ k, (∃ i, k = p.c i) ∨ k = p.ex ∨ k = z7 ∨ k = z8 ∨ k = out ∨ (∃ i, Z i k) → ¬ (k = q.g ∨ k = p.h) := fun k hk e => by
    have := H.lo k (.inr hk)
    rcases e with e | e
    · omega
    · exact hN k hk e
  obtain ⟨g1, g2, g3, g4⟩ := H.ge
  exact ⟨⟨hh, fun i => ho.isBlock (H.win.hc i) (hn _ (.inl ⟨i, rfl⟩)), ho.isBlock H.win.hx (hn _ (.inr (.inl rfl))), fun i => (H.win.nst i).kept ho (fun k hk => hn k (.inr (.inr (.inr (.inr (.inr ⟨i, hk⟩)))))), ho.isBlock H.win.h7 (hn _ (.inr (.inr (.inl rfl)))), ho.isBlock H.win.h8 (hn _ (.inr (.inr (.inr (.inl rfl))))), ho.isBlock H.win.ho (hn _ (.inr (.inr (.inr (.inr (.inl rfl))))))⟩, hg, ho.isBlock H.hc (fun e => by have := H.ne.1; omega), ho.isBlock H.hs (fun e => by have := H.ne.2.1; omega), ho.isBlock H.ht (fun e => by have := H.ne.2.2; omega), H.lo, H.ge, H.ne, H.aw,
    Only.widen' H.only ho (fun j hj => by
      rcases hj with hj | hj
      · right; omega
      · exact .inl (.inl hj))⟩

theorem NHIn.cIdx {w : World} {p : Pl} {s : HSt} {Z : Bool → Nat → Prop} {m : Nat} (H : NHIn w p s Z m) (b : Bool) : w.cell? ⟨p.h, 5 + (hotIdx b).toNat, none⟩ = some (.pointer (some ⟨p.c b, 0, none⟩)) := by
  cases b
  · exact H.hh.cell rfl
  · exact H.hh.cell rfl

set_option maxRecDepth 100000 in
set_option maxHeartbeats 3200000 in
theorem write_nat (p : Pl) (s : HSt) (Z : Bool → Nat → Prop) (m out : Nat) (w : World) (H : NHIn w p s Z m) (hm : m ≤ 268435456) (hout : IsBlock w out mNew) (hoo : ∀ k, k = p.h ∨ (∃ i, k = p.c i) ∨ k = p.ex ∨ (∃ i, Z i k) → k ≠ out) (hlab : p.labels = .slice none 0 0) (hnex : ∃ a c, s.nex = .slice (some a) 0 c) :
    Calls Tryz.prog 239 #[.pointer (some ⟨p.h, 0, none⟩), .pointer (some ⟨out, 0, none⟩)] w fun e w' => e = .returned .nilIface ∧ ∃ (q : NQ) (vns vnd vps vpd : Value) (tn tp : MS), NDone w' w.heap.size q s.n (s.c s.hot).sum (s.c s.hot).zt (s.c s.hot).zero s.last 0 vns vnd vps vpd tn tp ∧
      tn.sp.length ≤ m ∧ tn.ds.length ≤ 3 * m ∧ tp.sp.length ≤ m + 1 ∧ tp.ds.length ≤ 3 * m ∧ IsBlock w' out (mDone q.g) ∧ Only (fun k => k = out ∨ NOwn p Z k) w w' := by
  have hoh : out ≠ p.h := fun e => hoo p.h (.inl rfl) e.symm
  have hn : s.n < 2 ^ 63 := by have := H.nm; omega
  have c3 := H.hh.cell (i := 3) rfl
  have f3 := H.hh.free 3
  have c0 := H.hh.cell (i := 0) rfl
  have f0 := H.hh.free 0
  have c5 := H.cIdx (!s.hot)
  have c6 := H.cIdx s.hot
  have d1 := idxVal_div s.n (!s.hot) hn
  have d2 := idxVal_and s.n (!s.hot) hn
  have d3 := idxVal_not s.n (!s.hot) hn
  rw [Bool.not_not] at d3
  have hsg : IntKind.u64.signed = false := rfl
  have lh := H.hh.lt
  have b1 := (hotIdx_bd (!s.hot)).1
  have b2 := (hotIdx_bd (!s.hot)).2
  have b3 := (hotIdx_bd s.hot).1
  have b4 := (hotIdx_bd s.hot).2
  have h1 := idxVal_flip (w := w.setCell ⟨p.h, 3, none⟩ (.int .i32 1)) (a := ⟨p.h, 0, none⟩) (n := s.n) (hot := s.hot) (by rw [World.cell?_setCell_other _ _ _ _ (by simp)]; exact c0) (by rw [World.frozen?_setCell]; exact f0) hn
  have HOO := Lib.hid hoo
  have HH := Lib.hid H
  have HM := Lib.hid hm
  have HNX := Lib.hid hnex
  clear hoo hm hn hnex
  go_enter_defers Tryz.func239, Tryz.ntmps239
  go_wp2_with (go_at_call 244; refine (lock_free muLib ⟨p.h, 3, none⟩ _ c3 f3).mono ?_; rintro e w' ⟨rfl, rfl⟩)
  refine (?_ : ∀ w4, w4 = _ → Calls Tryz.prog 247 _ w4 _) _ rfl
  intro w4 hw4
  have HW4 : Hid (WNIn w4 p s Z m w.heap.size (w.heap.size + 1) out mNew) := Lib.hid (by
    have hne : ∀ i, p.c i ≠ p.h := fun i e => H.hne i e.symm
    have hz : Only (fun k => k = p.h) w w4 := by rw [hw4]; exact ((((Only.refl (fun k => k = p.h) w).setCell (p := ⟨p.h, 3, none⟩) (.inl rfl) _).setCell (p := ⟨p.h, 0, none⟩) (.inl rfl) _).alloc _).alloc _
    refine { hh := ?_, hc := fun i => hz.isBlock (H.hc i) (hne i), hx := hz.isBlock H.hx H.xo.1, nst := fun i => (H.nst i).kept hz (fun k hk => (H.zo i k hk).1), h7 := ?_, h8 := ?_, ho := hz.isBlock hout hoh }
    · rw [hw4]; exact (((H.hh.set 3 (.int .i32 1)).set 0 (.int .u64 (idxVal s.n (!s.hot)))).alloc _).alloc _
    · rw [hw4]
      have h := (IsBlock.new ((w.setCell ⟨p.h, 3, none⟩ (.int .i32 1)).setCell ⟨p.h, 0, none⟩ (.int .u64 (idxVal s.n (!s.hot)))) [.pointer (some ⟨p.c (!s.hot), 0, none⟩)] 238).alloc (.cells #[.pointer (some ⟨p.c s.hot, 0, none⟩)] 238)
      simp only [World.size_setCell] at h
      exact h
    · rw [hw4]
      have h := IsBlock.new (((w.setCell ⟨p.h, 3, none⟩ (.int .i32 1)).setCell ⟨p.h, 0, none⟩ (.int .u64 (idxVal s.n (!s.hot)))).alloc (.cells #[.pointer (some ⟨p.c (!s.hot), 0, none⟩)] 238)) [.pointer (some ⟨p.c s.hot, 0, none⟩)] 238
      simp only [World.size_alloc, World.size_setCell] at h
      exact h)
  have HO4 : Hid (Only (fun k => k = p.h ∨ k = out) w w4) := Lib.hid (by
    rw [hw4]
    exact ((((Only.refl _ w).setCell (p := ⟨p.h, 3, none⟩) (.inl (.inl rfl)) _).setCell (p := ⟨p.h, 0, none⟩) (.inl (.inl rfl)) _).alloc _).alloc _)
  have HZ4 : Hid (w4.heap.size = w.heap.size + 2) := Lib.hid (by rw [hw4]; simp)
  clear hw4 h1 b1 b2 b3 b4 d1 d2 d3 c5 c6 c3 f3 c0 f0 hsg H
  refine (cooldown_any _ _ _).mono ?_
  rintro e w' ⟨rfl, rfl⟩
  go_wp2_with fail
  have k7 : w'.cell? ⟨p.h, 7, none⟩ = some (.slice none 0 0) := HW4.out.hh.cell rfl
  have k15 : w'.cell? ⟨p.h, 15, none⟩ = some (.int .i64 s.last) := HW4.out.hh.cell rfl
  have k8 : w'.cell? ⟨w.heap.size + 1, 0, none⟩ = some (.pointer (some ⟨p.c s.hot, 0, none⟩)) := HW4.out.h8.cell rfl
  have k0 : w'.cell? ⟨p.c s.hot, 0, none⟩ = some (.int .u64 (s.c s.hot).sum) := (HW4.out.hc s.hot).cell rfl
  refine writeRegion8_nil p s (w.heap.size + 1) _ k7 k15 k8 k0 _ _ _ _ _ _ _ _ _ _ _ _ _ _ _ _ _ _ _ _ _ _ _ _ _ _ _ _ _ _ _ _ _ _ _ _ _ _ _ _ ?_
  intro q y48 y49 y50 y51 y52 y53 y54 y55 y56 y57 y58 y59 y60 y61 y62 y63 y64 y65 y66 y67 y68 y69 wc hq
  clear k7 k15 k8 k0
  have hS0 : SN w p s Z m w.heap.size (w.heap.size + 1) out mNew q w'.heap.size (q.cells 0) wc := by
    have hz4 := HZ4.out
    refine { win := HW4.out.mono hq.only (fun _ _ => id), hg := hq.hg, hc := hq.hc, hs := hq.hs, ht := hq.ht, lo := fun k hk => ?_, ge := ⟨hq.g1, hq.g3, hq.g4, hq.g5⟩, ne := hq.n3, aw := by omega, only := HO4.out.trans (hq.only.mono (fun _ _ e => e.elim)) }
    rcases hk with rfl | ⟨i, rfl⟩ | rfl | rfl | rfl | rfl | ⟨i, hk⟩
    · exact HW4.out.hh.lt
    · exact (HW4.out.hc i).lt
    · exact HW4.out.hx.lt
    · exact HW4.out.h7.lt
    · exact HW4.out.h8.lt
    · exact HW4.out.ho.lt
    · have := (HH.out.zo i k hk).2.2.2; omega
  have HS0 := Lib.hid hS0
  have o5 : wc.cell? ⟨out, 5, none⟩ = some (.pointer none) := hS0.win.ho.cell rfl
  have o0 : wc.cell? ⟨out, 0, none⟩ = some (.slice none 0 0) := hS0.win.ho.cell rfl
  have fo5 := hS0.win.ho.free 5
  have fo0 := hS0.win.ho.free 0
  have k8 : wc.cell? ⟨p.h, 8, none⟩ = some (.slice none 0 0) := by rw [← hlab]; exact hS0.win.hh.cell rfl
  have hph : ¬ p.h = out := fun h => hoh h.symm
  clear hS0 hq
  go_upto_region 11 with fail
  refine (?_ : ∀ w9, w9 = _ → Code.wp _ _ _ _ w9) _ rfl
  intro w9 hw9
  have HS9 : Hid (SN w p s Z m w.heap.size (w.heap.size + 1) out (mDone q.g) q w'.heap.size (q.cells 0) w9) := Lib.hid (by
    have S := HS0.out
    have ho : Only (fun k => k = out) wc w9 := by rw [hw9]; exact ((Only.refl (fun k => k = out) wc).setCell (p := ⟨out, 5, none⟩) (.inl rfl) _).setCell (p := ⟨out, 0, none⟩) (.inl rfl) _
    have hol := S.lo out (.inr (.inr (.inr (.inr (.inr (.inl rfl))))))
    obtain ⟨g1, g2, g3, g4⟩ := S.ge
    have hzl : out ≠ w.heap.size ∧ out ≠ w.heap.size + 1 := by have := hout.lt; omega
    refine { win := { hh := ho.isBlock S.win.hh hph, hc := fun i => ho.isBlock (S.win.hc i) (HOO.out _ (.inr (.inl ⟨i, rfl⟩))), hx := ho.isBlock S.win.hx (HOO.out _ (.inr (.inr (.inl rfl)))), nst := fun i => (S.win.nst i).kept ho (fun k hk => HOO.out k (.inr (.inr (.inr ⟨i, hk⟩)))), h7 := ho.isBlock S.win.h7 hzl.1.symm, h8 := ho.isBlock S.win.h8 hzl.2.symm, ho := ?_ }, hg := ho.isBlock S.hg (by omega), hc := ho.isBlock S.hc (by omega), hs := ho.isBlock S.hs (by omega), ht := ho.isBlock S.ht (by omega), lo := S.lo, ge := S.ge, ne := S.ne, aw := S.aw, only := S.only.trans (ho.mono (fun _ _ e => .inr e)) }
    rw [hw9]
    exact (S.win.ho.set 5 (.pointer (some ⟨q.g, 0, none⟩))).set 0 (.slice none 0 0))
  clear hw9 o5 o0 fo5 fo0 k8 HS0 HW4 HO4
  have k7 : w9.cell? ⟨p.h, 7, none⟩ = some (.slice none 0 0) := HS9.out.win.hh.cell rfl
  have k9 : w9.cell? ⟨p.h, 9, none⟩ = some (.slice (some ⟨p.ex, 0, none⟩) 1 1) := by have h := HS9.out.win.hh.cell (i := 9) (v := .slice (some ⟨p.ex, 0, none⟩) (s.bounds.length + 1) (s.bounds.length + 1)) rfl; rw [HH.out.bds] at h; exact h
  have cx : w9.cell? ⟨p.ex, 0, none⟩ = some .nilIface := HS9.out.win.hx.cell rfl
  have k10 : w9.cell? ⟨p.h, 10, none⟩ = some (.int .i32 0) := by have h := HS9.out.win.hh.cell (i := 10) (v := .int .i32 s.sch) rfl; rw [HH.out.sch] at h; exact h
  go_wp2_with fail
  refine wp_loop_rounds 1 ?_
  rw [rounds_succ]
  go_wp2_with fail
  go_region
  go_upto_region 26 with fail
  refine (?_ : ∀ wa, wa = w9.drew → Code.wp _ _ _ _ wa) _ rfl
  intro wa hwa
  have HSA : Hid (SN w p s Z m w.heap.size (w.heap.size + 1) out (mDone q.g) q w'.heap.size (q.cells 0) wa) := Lib.hid (by rw [hwa]; exact HS9.out.kept (Only.refl _ w9).drew)
  clear hwa HS9 k7 k9 cx k10
  have z8 : wa.cell? ⟨w.heap.size + 1, 0, none⟩ = some (.pointer (some ⟨p.c s.hot, 0, none⟩)) := HSA.out.win.h8.cell rfl
  have e3 : wa.cell? ⟨p.c s.hot, 3, none⟩ = some (.int .u64 (s.c s.hot).zt) := (HSA.out.win.hc s.hot).cell rfl
  have g5 : (wa.alloc (.cells #[.float .f64 (s.c s.hot).zt] 25)).cell? ⟨q.g, 5, none⟩ = some (.pointer none) := (HSA.out.hg.alloc _).cell rfl
  have gf : (wa.alloc (.cells #[.float .f64 (s.c s.hot).zt] 25)).frozen? ⟨q.g, 5, none⟩ = false := (HSA.out.hg.alloc _).free 5
  go_upto_region 27 with (go_at_call 249; refine (ofF64_any _ _).mono ?_; rintro e w' ⟨rfl, rfl⟩)
  refine (?_ : ∀ wb, wb = ((wa.alloc (.cells #[.float .f64 (s.c s.hot).zt] 25)).setCell ⟨q.g, 5, none⟩ (.pointer (some ⟨wa.heap.size, 0, none⟩))) → Code.wp _ _ _ _ wb) _ rfl
  intro wb hwb
  have HSB : Hid (SN w p s Z m w.heap.size (w.heap.size + 1) out (mDone q.g) q w'.heap.size ((q.cells 0).set 5 (.pointer (some ⟨wa.heap.size, 0, none⟩))) wb) := Lib.hid (by rw [hwb]; exact (HSA.out.kept ((Only.refl _ wa).alloc _)).store 5 _)
  have HQ5 : Hid (IsBlock wb wa.heap.size [.float .f64 (s.c s.hot).zt] ∧ wb.heap.size = wa.heap.size + 1 ∧ q.g < wa.heap.size ∧ w'.heap.size ≤ wa.heap.size) := Lib.hid (by
    have h := HSA.out.hg.lt
    have h2 := HSA.out.ge.1
    rw [hwb]
    exact ⟨(IsBlock.new wa [.float .f64 (s.c s.hot).zt] 25).set_ne (a := ⟨q.g, 5, none⟩) (by show wa.heap.size ≠ q.g; omega) _, by simp, h, by omega⟩)
  clear hwb HSA z8 e3 g5 gf
  have z8 : wb.cell? ⟨w.heap.size + 1, 0, none⟩ = some (.pointer (some ⟨p.c s.hot, 0, none⟩)) := HSB.out.win.h8.cell rfl
  have e4 : wb.cell? ⟨p.c s.hot, 4, none⟩ = some (.int .i32 0) := by have h := (HSB.out.win.hc s.hot).cell (i := 4) (v := .int .i32 (s.c s.hot).sch) rfl; rw [HH.out.csch] at h; exact h
  have g4 : (wb.alloc (.cells #[.int .i32 0] 21)).cell? ⟨q.g, 4, none⟩ = some (.pointer none) := (HSB.out.hg.alloc _).cell rfl
  have gf : (wb.alloc (.cells #[.int .i32 0] 21)).frozen? ⟨q.g, 4, none⟩ = false := (HSB.out.hg.alloc _).free 4
  go_upto_region 28 with (go_at_call 252; refine (ofI32_any _ _).mono ?_; rintro e w' ⟨rfl, rfl⟩)
  refine (?_ : ∀ wd, wd = ((wb.alloc (.cells #[.int .i32 0] 21)).setCell ⟨q.g, 4, none⟩ (.pointer (some ⟨wb.heap.size, 0, none⟩))) → Code.wp _ _ _ _ wd) _ rfl
  intro wd hwd
  have HSD : Hid (SN w p s Z m w.heap.size (w.heap.size + 1) out (mDone q.g) q w'.heap.size (((q.cells 0).set 5 (.pointer (some ⟨wa.heap.size, 0, none⟩))).set 4 (.pointer (some ⟨wb.heap.size, 0, none⟩))) wd) := Lib.hid (by rw [hwd]; exact (HSB.out.kept ((Only.refl _ wb).alloc _)).store 4 _)
  have HQ4 : Hid (IsBlock wd wa.heap.size [.float .f64 (s.c s.hot).zt] ∧ IsBlock wd wb.heap.size [.int .i32 0] ∧ wd.heap.size = wb.heap.size + 1) := Lib.hid (by
    have h := HQ5.out
    rw [hwd]
    exact ⟨(h.1.alloc _).set_ne (a := ⟨q.g, 4, none⟩) (by show wa.heap.size ≠ q.g; omega) _, (IsBlock.new wb [.int .i32 0] 21).set_ne (a := ⟨q.g, 4, none⟩) (by show wb.heap.size ≠ q.g; omega) _, by simp⟩)
  clear hwd HSB z8 e4 g4 gf
  have z8 : wd.cell? ⟨w.heap.size + 1, 0, none⟩ = some (.pointer (some ⟨p.c s.hot, 0, none⟩)) := HSD.out.win.h8.cell rfl
  have e2 : wd.cell? ⟨p.c s.hot, 2, none⟩ = some (.int .u64 (s.c s.hot).zero) := (HSD.out.win.hc s.hot).cell rfl
  have g6 : (wd.alloc (.cells #[.int .u64 (s.c s.hot).zero] 30)).cell? ⟨q.g, 6, none⟩ = some (.pointer none) := (HSD.out.hg.alloc _).cell rfl
  have gf : (wd.alloc (.cells #[.int .u64 (s.c s.hot).zero] 30)).frozen? ⟨q.g, 6, none⟩ = false := (HSD.out.hg.alloc _).free 6
  go_upto_region 31 with (go_at_call 248; refine (ofU64_any _ _).mono ?_; rintro e w' ⟨rfl, rfl⟩)
  refine (?_ : ∀ we, we = ((wd.alloc (.cells #[.int .u64 (s.c s.hot).zero] 30)).setCell ⟨q.g, 6, none⟩ (.pointer (some ⟨wd.heap.size, 0, none⟩))) → Code.wp _ _ _ _ we) _ rfl
  intro we hwe
  have HSE : Hid (SN w p s Z m w.heap.size (w.heap.size + 1) out (mDone q.g) q w'.heap.size ((((q.cells 0).set 5 (.pointer (some ⟨wa.heap.size, 0, none⟩))).set 4 (.pointer (some ⟨wb.heap.size, 0, none⟩))).set 6 (.pointer (some ⟨wd.heap.size, 0, none⟩))) we) := Lib.hid (by rw [hwe]; exact (HSD.out.kept ((Only.refl _ wd).alloc _)).store 6 _)
  have HQ6 : Hid (IsBlock we wa.heap.size [.float .f64 (s.c s.hot).zt] ∧ IsBlock we wb.heap.size [.int .i32 0] ∧ IsBlock we wd.heap.size [.int .u64 (s.c s.hot).zero] ∧ we.heap.size = wd.heap.size + 1) := Lib.hid (by
    have h := HQ5.out
    have h4 := HQ4.out
    rw [hwe]
    exact ⟨(h4.1.alloc _).set_ne (a := ⟨q.g, 6, none⟩) (by show wa.heap.size ≠ q.g; omega) _, (h4.2.1.alloc _).set_ne (a := ⟨q.g, 6, none⟩) (by show wb.heap.size ≠ q.g; omega) _, (IsBlock.new wd [.int .u64 (s.c s.hot).zero] 30).set_ne (a := ⟨q.g, 6, none⟩) (by show wd.heap.size ≠ q.g; omega) _, by simp⟩)
  clear hwe HSD z8 e2 g6 gf
  have z8 : we.cell? ⟨w.heap.size + 1, 0, none⟩ = some (.pointer (some ⟨p.c s.hot, 0, none⟩)) := HSE.out.win.h8.cell rfl
  have HMN := Lib.hid (mbSide true 8 (p.c s.hot) (p.b s.hot) m rfl (s.c s.hot) (Z s.hot) we (HSE.out.win.hc _) (HSE.out.win.nst _) (fun k hk => by have := HSE.out.lo k (.inr (.inr (.inr (.inr (.inr (.inr ⟨_, hk⟩)))))); have := HSE.out.hg.lt; have := HSE.out.ge.1; omega) HM.out)
  go_upto_region 32 with (go_at_call 257; refine HMN.out.mono ?_; rintro e wf ⟨vns, vnd, tn, rfl, n1, n2, n3, n4⟩; obtain ⟨⟨na, nc, rfl⟩, ⟨da, dc, rfl⟩⟩ := n1.slices; have h7 := (n4.isBlock HSE.out.hg id).cell (i := 7) (v := .slice none 0 0) rfl; have h8 := (n4.isBlock HSE.out.hg id).cell (i := 8) (v := .slice none 0 0) rfl; have f7 := (n4.isBlock HSE.out.hg id).free 7; have f8 := (n4.isBlock HSE.out.hg id).free 8)
  refine (?_ : ∀ wg, wg = ((wf.setCell ⟨q.g, 7, none⟩ (.slice na tn.sp.length nc)).setCell ⟨q.g, 8, none⟩ (.slice da tn.ds.length dc)) → Code.wp _ _ _ _ wg) _ rfl
  intro wg hwg
  have HSG : Hid (SN w p s Z m w.heap.size (w.heap.size + 1) out (mDone q.g) q w'.heap.size ((((((q.cells 0).set 5 (.pointer (some ⟨wa.heap.size, 0, none⟩))).set 4 (.pointer (some ⟨wb.heap.size, 0, none⟩))).set 6 (.pointer (some ⟨wd.heap.size, 0, none⟩))).set 7 (.slice na tn.sp.length nc)).set 8 (.slice da tn.ds.length dc)) wg) := Lib.hid (by rw [hwg]; exact ((HSE.out.kept n4).store 7 _).store 8 _)
  have HGO : Hid (Only (fun k => k = q.g) wf wg ∧ MOut wg we.heap.size (.slice na tn.sp.length nc) (.slice da tn.ds.length dc) tn ∧ Only (fun k => k = q.g) we wg ∧ tn.sp.length ≤ m ∧ tn.ds.length ≤ 3 * m) := Lib.hid (by
    have ho : Only (fun k => k = q.g) wf wg := by rw [hwg]; exact ((Only.refl (fun k => k = q.g) wf).setCell (p := ⟨q.g, 7, none⟩) (.inl rfl) _).setCell (p := ⟨q.g, 8, none⟩) (.inl rfl) _
    have hl := HSE.out.hg.lt
    exact ⟨ho, n1.kept ho (fun k hk => by omega), (n4.mono (fun _ _ e => e.elim)).trans ho, n2, n3⟩)
  clear hwg z8 n1 n2 n3 n4 h7 h8 f7 f8 HMN
  have z8 : wg.cell? ⟨w.heap.size + 1, 0, none⟩ = some (.pointer (some ⟨p.c s.hot, 0, none⟩)) := HSG.out.win.h8.cell rfl
  have HMP := Lib.hid (mbSide false 7 (p.c s.hot) (p.b s.hot) m rfl (s.c s.hot) (Z s.hot) wg (HSG.out.win.hc _) (HSG.out.win.nst _) (fun k hk => by have := HSG.out.lo k (.inr (.inr (.inr (.inr (.inr (.inr ⟨_, hk⟩)))))); have := HSG.out.hg.lt; have := HSG.out.ge.1; omega) HM.out)
  go_upto_region 33 with (go_at_call 257; refine HMP.out.mono ?_; rintro e wh ⟨vps, vpd, tp, rfl, n1, n2, n3, n4⟩; obtain ⟨⟨pa, pc, rfl⟩, ⟨ea, ec, rfl⟩⟩ := n1.slices; have h7 := (n4.isBlock HSG.out.hg id).cell (i := 9) (v := .slice none 0 0) rfl; have h8 := (n4.isBlock HSG.out.hg id).cell (i := 10) (v := .slice none 0 0) rfl; have f7 := (n4.isBlock HSG.out.hg id).free 9; have f8 := (n4.isBlock HSG.out.hg id).free 10)
  refine (?_ : ∀ wi, wi = ((wh.setCell ⟨q.g, 9, none⟩ (.slice pa tp.sp.length pc)).setCell ⟨q.g, 10, none⟩ (.slice ea tp.ds.length ec)) → Code.wp _ _ _ _ wi) _ rfl
  intro wi hwi
  have HSI : Hid (SN w p s Z m w.heap.size (w.heap.size + 1) out (mDone q.g) q w'.heap.size ((((((((q.cells 0).set 5 (.pointer (some ⟨wa.heap.size, 0, none⟩))).set 4 (.pointer (some ⟨wb.heap.size, 0, none⟩))).set 6 (.pointer (some ⟨wd.heap.size, 0, none⟩))).set 7 (.slice na tn.sp.length nc)).set 8 (.slice da tn.ds.length dc)).set 9 (.slice pa tp.sp.length pc)).set 10 (.slice ea tp.ds.length ec)) wi) := Lib.hid (by rw [hwi]; exact ((HSG.out.kept n4).store 9 _).store 10 _)
  have HIO : Hid (Only (fun k => k = q.g) we wi ∧ MOut wi we.heap.size (.slice na tn.sp.length nc) (.slice da tn.ds.length dc) tn ∧ MOut wi we.heap.size (.slice pa tp.sp.length pc) (.slice ea tp.ds.length ec) tp ∧ tp.sp.length ≤ m ∧ tp.ds.length ≤ 3 * m) := Lib.hid (by
    have ho : Only (fun k => k = q.g) wh wi := by rw [hwi]; exact ((Only.refl (fun k => k = q.g) wh).setCell (p := ⟨q.g, 9, none⟩) (.inl rfl) _).setCell (p := ⟨q.g, 10, none⟩) (.inl rfl) _
    have hl := HSE.out.hg.lt
    have hz := HGO.out.2.2.1.size
    have hgi : Only (fun k => k = q.g) wg wi := (n4.mono (fun _ _ e => e.elim)).trans ho
    exact ⟨HGO.out.2.2.1.trans hgi, HGO.out.2.1.kept hgi (fun k hk => by omega), (n1.kept ho (fun k hk => by omega)).lower hz, n2, n3⟩)
  clear hwi z8 n1 n2 n3 n4 h7 h8 f7 f8 HMP HSG
  go_cut [253] from 222 to 252 (fun v wx => (∃ b, v = .bool b) ∧ wx = wi)
  case first =>
    /-A-/
    have HQI : Hid (q.g < we.heap.size ∧ we.heap.size ≤ wi.heap.size ∧ q.g ≠ wa.heap.size ∧ q.g ≠ wd.heap.size) := Lib.hid ⟨HSE.out.hg.lt, HIO.out.1.size, by have := HQ5.out.2.2.1; omega, by have := HQ5.out; have := HQ4.out; omega⟩
    have hqi := HQI.out
    have k5 : wi.cell? ⟨q.g, 5, none⟩ = some (.pointer (some ⟨wa.heap.size, 0, none⟩)) := HSI.out.hg.cell rfl
    have kz : wi.cell? ⟨wa.heap.size, 0, none⟩ = some (.float .f64 (s.c s.hot).zt) := (HIO.out.1.isBlock HQ6.out.1 (fun e => hqi.2.2.1 e.symm)).cell rfl
    have k6 : wi.cell? ⟨q.g, 6, none⟩ = some (.pointer (some ⟨wd.heap.size, 0, none⟩)) := HSI.out.hg.cell rfl
    have kc : wi.cell? ⟨wd.heap.size, 0, none⟩ = some (.int .u64 (s.c s.hot).zero) := (HIO.out.1.isBlock HQ6.out.2.2.1 (fun e => hqi.2.2.2 e.symm)).cell rfl
    have k9 : wi.cell? ⟨q.g, 9, none⟩ = some (.slice pa tp.sp.length pc) := HSI.out.hg.cell rfl
    have k7 : wi.cell? ⟨q.g, 7, none⟩ = some (.slice na tn.sp.length nc) := HSI.out.hg.cell rfl
    clear hqi HQI HIO HSI HQ6 HQ5 HQ4 HSE HGO HM HH HOO
    cases hb1 : (FloatKind.f64.format.order (s.c s.hot).zt 0 == some .eq) with
    | false =>
      go_wp2_with fail
      go_meet
      exact ⟨⟨_, rfl⟩, rfl⟩
    | true =>
      by_cases hb2 : (s.c s.hot).zero = 0
      · have hb2' : (((s.c s.hot).zero : Int) == 0) = true := by rw [hb2]; rfl
        by_cases hb3 : tp.sp.length = 0
        · have hb3' : ((tp.sp.length : Int) == 0) = true := by rw [hb3]; rfl
          go_wp2_with fail
          go_meet
          exact ⟨⟨_, rfl⟩, rfl⟩
        · have hb3' : ((tp.sp.length : Int) == 0) = false := beq_eq_false_iff_ne.2 (by omega)
          go_wp2_with fail
          go_meet
          exact ⟨⟨_, rfl⟩, rfl⟩
      · have hb2' : (((s.c s.hot).zero : Int) == 0) = false := beq_eq_false_iff_ne.2 (by omega)
        go_wp2_with fail
        go_meet
        exact ⟨⟨_, rfl⟩, rfl⟩
    /-AE-/
  obtain ⟨⟨bn, rfl⟩, hwx⟩ := hcut
  subst hwx
  go_upto_if 253 with fail
  go_cut [] from 253 to 261 (fun wx => ∃ (pa' : Option Addr) (pc' : Nat) (tp' : MS), SN w p s Z m w.heap.size (w.heap.size + 1) out (mDone q.g) q w'.heap.size ((((((((q.cells 0).set 5 (.pointer (some ⟨wa.heap.size, 0, none⟩))).set 4 (.pointer (some ⟨wb.heap.size, 0, none⟩))).set 6 (.pointer (some ⟨wd.heap.size, 0, none⟩))).set 7 (.slice na tn.sp.length nc)).set 8 (.slice da tn.ds.length dc)).set 9 (.slice pa' tp'.sp.length pc')).set 10 (.slice ea tp.ds.length ec)) wx ∧ tp'.ds.length = tp.ds.length ∧ tp'.sp.length ≤ m + 1 ∧
      MOut wx we.heap.size (.slice pa' tp'.sp.length pc') (.slice ea tp.ds.length ec) tp' ∧ Only (fun k => k = q.g) wc wx)
  case first =>
    /-B-/
    have hqi : q.g < we.heap.size ∧ we.heap.size ≤ wc.heap.size := ⟨HSE.out.hg.lt, HIO.out.1.size⟩
    have k9 : wc.cell? ⟨q.g, 9, none⟩ = some (.slice pa tp.sp.length pc) := HSI.out.hg.cell rfl
    have g9 : ((((wc.alloc (.cells #[.int .i32 0] 21)).alloc (.cells #[.int .u32 0] 26)).alloc (.cells #[.pointer (some ⟨wc.heap.size, 0, none⟩), .pointer (some ⟨wc.heap.size + 1, 0, none⟩)] 212)).alloc (.cells #[.pointer (some ⟨wc.heap.size + 2, 0, none⟩)] 209)).cell? ⟨q.g, 9, none⟩ = some (.slice pa tp.sp.length pc) := cell_past (cell_past (cell_past (cell_past k9 _) _) _) _
    have f9 : ((((wc.alloc (.cells #[.int .i32 0] 21)).alloc (.cells #[.int .u32 0] 26)).alloc (.cells #[.pointer (some ⟨wc.heap.size, 0, none⟩), .pointer (some ⟨wc.heap.size + 1, 0, none⟩)] 212)).alloc (.cells #[.pointer (some ⟨wc.heap.size + 2, 0, none⟩)] 209)).frozen? ⟨q.g, 9, none⟩ = false := ((((HSI.out.hg.alloc _).alloc _).alloc _).alloc _).free 9
    have HKEEP : Hid (∃ (pa' : Option Addr) (pc' : Nat) (tp' : MS), SN w p s Z m w.heap.size (w.heap.size + 1) out (mDone q.g) q w'.heap.size ((((((((q.cells 0).set 5 (.pointer (some ⟨wa.heap.size, 0, none⟩))).set 4 (.pointer (some ⟨wb.heap.size, 0, none⟩))).set 6 (.pointer (some ⟨wd.heap.size, 0, none⟩))).set 7 (.slice na tn.sp.length nc)).set 8 (.slice da tn.ds.length dc)).set 9 (.slice pa' tp'.sp.length pc')).set 10 (.slice ea tp.ds.length ec)) wc ∧ tp'.ds.length = tp.ds.length ∧ tp'.sp.length ≤ m + 1 ∧
      MOut wc we.heap.size (.slice pa' tp'.sp.length pc') (.slice ea tp.ds.length ec) tp' ∧ Only (fun k => k = q.g) wc wc) := Lib.hid ⟨pa, pc, tp, HSI.out, rfl, by have := HIO.out.2.2.2.1; omega, HIO.out.2.2.1, Only.refl _ _⟩
    have HNOOP : Hid (∃ (pa' : Option Addr) (pc' : Nat) (tp' : MS), SN w p s Z m w.heap.size (w.heap.size + 1) out (mDone q.g) q w'.heap.size ((((((((q.cells 0).set 5 (.pointer (some ⟨wa.heap.size, 0, none⟩))).set 4 (.pointer (some ⟨wb.heap.size, 0, none⟩))).set 6 (.pointer (some ⟨wd.heap.size, 0, none⟩))).set 7 (.slice na tn.sp.length nc)).set 8 (.slice da tn.ds.length dc)).set 9 (.slice pa' tp'.sp.length pc')).set 10 (.slice ea tp.ds.length ec)) (((((wc.alloc (.cells #[.int .i32 0] 21)).alloc (.cells #[.int .u32 0] 26)).alloc (.cells #[.pointer (some ⟨wc.heap.size, 0, none⟩), .pointer (some ⟨wc.heap.size + 1, 0, none⟩)] 212)).alloc (.cells #[.pointer (some ⟨wc.heap.size + 2, 0, none⟩)] 209)).setCell ⟨q.g, 9, none⟩ (.slice (some ⟨wc.heap.size + 3, 0, none⟩) 1 1)) ∧ tp'.ds.length = tp.ds.length ∧ tp'.sp.length ≤ m + 1 ∧
      MOut (((((wc.alloc (.cells #[.int .i32 0] 21)).alloc (.cells #[.int .u32 0] 26)).alloc (.cells #[.pointer (some ⟨wc.heap.size, 0, none⟩), .pointer (some ⟨wc.heap.size + 1, 0, none⟩)] 212)).alloc (.cells #[.pointer (some ⟨wc.heap.size + 2, 0, none⟩)] 209)).setCell ⟨q.g, 9, none⟩ (.slice (some ⟨wc.heap.size + 3, 0, none⟩) 1 1)) we.heap.size (.slice pa' tp'.sp.length pc') (.slice ea tp.ds.length ec) tp' ∧ Only (fun k => k = q.g) wc (((((wc.alloc (.cells #[.int .i32 0] 21)).alloc (.cells #[.int .u32 0] 26)).alloc (.cells #[.pointer (some ⟨wc.heap.size, 0, none⟩), .pointer (some ⟨wc.heap.size + 1, 0, none⟩)] 212)).alloc (.cells #[.pointer (some ⟨wc.heap.size + 2, 0, none⟩)] 209)).setCell ⟨q.g, 9, none⟩ (.slice (some ⟨wc.heap.size + 3, 0, none⟩) 1 1))) := Lib.hid (by
      have h := noop_out rfl hqi.1 hqi.2 HIO.out.2.2.1
      refine ⟨some ⟨wc.heap.size + 3, 0, none⟩, 1, { tp with sp := [(0, 0)] }, ?_, rfl, by show 1 ≤ m + 1; omega, h.1, h.2⟩
      exact (HSI.out.kept ((((((Only.refl (fun _ => False) wc).alloc _).alloc _).alloc _).alloc _))).store 9 (.slice (some ⟨wc.heap.size + 3, 0, none⟩) 1 1))
    clear hqi
    cases bn with
    | false =>
      go_wp2_with fail
      go_meet
      exact HKEEP.out
    | true =>
      go_wp2_with (first
        | (go_at_call 252; refine (ofI32_any _ _).mono ?_; rintro e w' ⟨rfl, rfl⟩)
        | (go_at_call 258; refine (ofU32_any _ _).mono ?_; rintro e w' ⟨rfl, rfl⟩))
      go_meet
      exact HNOOP.out
    /-BE-/
  obtain ⟨pa', pc', tp', hsx, hx1, hx2, hx3, hx4⟩ := hcut
  have HX := Lib.hid (And.intro hsx (And.intro hx1 (And.intro hx2 (And.intro hx3 hx4))))
  clear hsx hx1 hx2 hx3 hx4
  go_upto_region 35 with fail
  go_cut [265] from 262 to 264 (fun v wx => v = .bool (decide (s.ttl ≠ -1)) ∧ wx = wc)
  case first =>
    /-C-/
    have c19 : wc.cell? ⟨p.h, 19, none⟩ = some (.int .i64 s.ttl) := HX.out.1.win.hh.cell rfl
    go_wp2_with fail
    refine (isEnabled_any p.h 17 s.ttl wc c19).mono ?_
    rintro e w5 ⟨rfl, hw⟩
    rw [hw]
    clear hw w5
    go_wp2_with fail
    go_meet
    exact ⟨by simp, rfl⟩
    /-CE-/
  obtain ⟨rfl, hwx⟩ := hcut
  subst hwx
  go_upto_if 265 with fail
  go_cut [] from 265 to 288 (fun wx => SN w p s Z m w.heap.size (w.heap.size + 1) out (mDone q.g) q w'.heap.size ((((((((q.cells 0).set 5 (.pointer (some ⟨wa.heap.size, 0, none⟩))).set 4 (.pointer (some ⟨wb.heap.size, 0, none⟩))).set 6 (.pointer (some ⟨wd.heap.size, 0, none⟩))).set 7 (.slice na tn.sp.length nc)).set 8 (.slice da tn.ds.length dc)).set 9 (.slice pa' tp'.sp.length pc')).set 10 (.slice ea tp.ds.length ec)) wx ∧ Only (fun k => k = q.g ∨ k = p.h) wc wx)
  case first =>
    /-D-/
    by_cases ht : s.ttl = -1
    · have hE : decide (s.ttl ≠ -1) = false := decide_eq_false (fun h => h ht)
      rw [hE]
      clear hE ht
      go_wp2_with fail
      go_meet
      exact ⟨HX.out.1, Only.refl _ _⟩
    · have hE : decide (s.ttl ≠ -1) = true := decide_eq_true ht
      rw [hE]
      clear hE ht
      have c17 : wc.cell? ⟨p.h, 17, none⟩ = some (.int .i32 0) := HX.out.1.win.hh.cell rfl
      have f17 := HX.out.1.win.hh.free 17
      go_upto_region 37 with (go_at_call 244; refine (lock_free muLib ⟨p.h, 17, none⟩ _ c17 f17).mono ?_; rintro e w5 ⟨rfl, rfl⟩)
      refine (?_ : ∀ w5, w5 = wc.setCell ⟨p.h, 17, none⟩ (.int .i32 1) → Code.wp _ _ _ _ w5) _ rfl
      intro w5 hw5
      obtain ⟨xa, xc, hxn⟩ := HNX.out
      have hqp : q.g ≠ p.h := by have := HX.out.1.lo p.h (.inl rfl); have := HX.out.1.ge.1; omega
      have H5 : Hid (IsBlock w5 q.g ((((((((q.cells 0).set 5 (.pointer (some ⟨wa.heap.size, 0, none⟩))).set 4 (.pointer (some ⟨wb.heap.size, 0, none⟩))).set 6 (.pointer (some ⟨wd.heap.size, 0, none⟩))).set 7 (.slice na tn.sp.length nc)).set 8 (.slice da tn.ds.length dc)).set 9 (.slice pa' tp'.sp.length pc')).set 10 (.slice ea tp.ds.length ec)) ∧ IsBlock w5 p.h (((((s.cells p).set 7 (.slice none 0 0)).set 3 (.int .i32 1)).set 0 (.int .u64 (idxVal s.n (!s.hot)))).set 17 (.int .i32 1))) := Lib.hid (by rw [hw5]; exact ⟨HX.out.1.hg.set_ne (a := ⟨p.h, 17, none⟩) hqp _, HX.out.1.win.hh.set 17 _⟩)
      have c20 : w5.cell? ⟨p.h, 20, none⟩ = some (.slice (some xa) 0 xc) := by rw [← hxn]; exact H5.out.2.cell rfl
      have HO5 : Hid (Only (fun k => k = q.g ∨ k = p.h) wc w5) := Lib.hid (by rw [hw5]; exact (Only.refl (fun k => k = q.g ∨ k = p.h) wc).setCell (p := ⟨p.h, 17, none⟩) (.inl (.inr rfl)) _)
      clear c17 f17 hw5
      refine writeRegion37_none p.h q.g xc xa _ w5 H5.out.1 rfl c20 hqp _ _ _ _ _ _ _ _ _ _ _ _ _ _ _ _ _ _ _ _ _ _ _ _ _ _ _ _ _ _ _ _ _ _ _ _ _ _ _ _ _ _ _ _ _ _ _ _ _ _ _ _ _ _ _ _ _ _ _ _ _ _ _ _ _ _ _ _ _ _ _ _ _ _ _ _ _ _ _ _ _ _ _ _ _ _ _ _ _ _ _ _ _ _ _ _ _ _ _ _ _ _ _ _ _ _ _ _ _ _ _ _ _ _ _ _ _ _ _ _ _ _ _ _ _ _ _ _ _ _ _ _ _ _ _ _ _ _ _ _ _ _ _ _ _ _ _ _ _ _ _ _ _ _ _ _ _ _ _ _ _ _ _ _ _ _ _ _ _ _ _ _ _ _ _ _ _ _ _ _ _ _ _ _ _ _ _ _ _ _ _ _ _ _ _ _ _ _ _ _ _ _ _ _ _ _ _ _ _ _ _ _ _ _ _ _ _ _ _ _ _ _ _ _ _ _ _ _ _ _ _ _ _ _ _ _ _ _ _ _ _ _ _ _ _ _ _ _ _ _ _ _ _ _ _ _ _ _ _ _ _ _ _ _ _ _ _ _ _ _ _ _ _ _ _ _ _ _ _ _ ?_
      intro y271 y272 y273 y274 y275 y276 y277 y278 y279 y280 y281 y282 y283 w6 ho6 hg6
      have hh6 := ho6.isBlock H5.out.2 hqp.symm
      have c17 : w6.cell? ⟨p.h, 17, none⟩ = some (.int .i32 1) := hh6.cell rfl
      have f17 := hh6.free 17
      have HF : Hid (SN w p s Z m w.heap.size (w.heap.size + 1) out (mDone q.g) q w'.heap.size ((((((((q.cells 0).set 5 (.pointer (some ⟨wa.heap.size, 0, none⟩))).set 4 (.pointer (some ⟨wb.heap.size, 0, none⟩))).set 6 (.pointer (some ⟨wd.heap.size, 0, none⟩))).set 7 (.slice na tn.sp.length nc)).set 8 (.slice da tn.ds.length dc)).set 9 (.slice pa' tp'.sp.length pc')).set 10 (.slice ea tp.ds.length ec)) (w6.setCell ⟨p.h, 17, none⟩ (.int .i32 0)) ∧ Only (fun k => k = q.g ∨ k = p.h) wc (w6.setCell ⟨p.h, 17, none⟩ (.int .i32 0))) := Lib.hid (by
        have ho7 : Only (fun k => k = q.g ∨ k = p.h) wc (w6.setCell ⟨p.h, 17, none⟩ (.int .i32 0)) := (HO5.out.trans (ho6.mono (fun _ _ e => .inl e))).setCell (p := ⟨p.h, 17, none⟩) (.inl (.inr rfl)) _
        refine ⟨HX.out.1.relocked ho7 (hg6.set_ne (a := ⟨p.h, 17, none⟩) hqp _) (hh6.set 17 (.int .i32 0)) (fun k hk => ?_), ho7⟩
        have H := HH.out
        rcases hk with ⟨i, rfl⟩ | rfl | rfl | rfl | rfl | ⟨i, hk⟩
        · exact fun e => H.hne i e.symm
        · exact H.xo.1
        · omega
        · omega
        · exact hoh
        · exact (H.zo i k hk).1)
      clear ho6 hg6 hh6
      go_wp2_with (go_at_call 245; refine (unlock_held muLib ⟨p.h, 17, none⟩ _ c17 f17).mono ?_; rintro e w7 ⟨rfl, rfl⟩)
      go_meet
      exact HF.out
    /-DE-/
  obtain ⟨hsy, hy⟩ := hcut
  have HSY := Lib.hid hsy
  have HND : Hid (NDone wc w.heap.size ⟨q.g, q.pc, q.ps, q.pt, q.arr, wb.heap.size, wa.heap.size, wd.heap.size⟩ s.n (s.c s.hot).sum (s.c s.hot).zt (s.c s.hot).zero s.last 0 (.slice na tn.sp.length nc) (.slice da tn.ds.length dc) (.slice pa' tp'.sp.length pc') (.slice ea tp.ds.length ec) tn tp' ∧ tn.sp.length ≤ m ∧ tn.ds.length ≤ 3 * m ∧ tp'.sp.length ≤ m + 1 ∧ tp'.ds.length ≤ 3 * m) := Lib.hid (by
    obtain ⟨g1, g2, g3, g4⟩ := hsy.ge
    have haw := hsy.aw
    have hph := hsy.lo p.h (.inl rfl)
    obtain ⟨q5, q51, q52, q53⟩ := HQ5.out
    obtain ⟨q6, q61, q62, q63⟩ := HQ6.out
    have q4 := HQ4.out.2.2
    have hx4 := HX.out.2.2.2.2
    have hall : Only (fun k => k = q.g ∨ k = p.h) we wc := ((HIO.out.1.trans hx4).mono (fun _ _ e => .inl e)).trans hy
    have hz := hall.size
    have hB : ∀ k, k = q.g ∨ k = p.h → k < we.heap.size := fun k hk => by
      rcases hk with hk | hk <;> omega
    have hxy : Only (fun k => k = q.g ∨ k = p.h) _ wc := (hx4.mono (fun _ _ e => .inl e)).trans hy
    refine ⟨{ hg := hsy.hg, hc := hsy.hc, hs := hsy.hs, ht := hsy.ht, hsch := hall.isBlock q61 (fun e => by dsimp only at e; omega), hzt := hall.isBlock q6 (fun e => by dsimp only at e; omega), hzc := hall.isBlock q62 (fun e => by dsimp only at e; omega), neg := (HIO.out.2.1.kept hxy hB).lower (by omega), pos := (HX.out.2.2.2.1.kept hy hB).lower (by omega), low := ⟨by show w.heap.size ≤ q.g; omega, by show w.heap.size ≤ q.pc; omega, by show w.heap.size ≤ q.ps; omega, by show w.heap.size ≤ q.pt; omega, by show w.heap.size ≤ wb.heap.size; omega, by show w.heap.size ≤ wa.heap.size; omega, by show w.heap.size ≤ wd.heap.size; omega⟩ }, HGO.out.2.2.2.1, HGO.out.2.2.2.2, HX.out.2.2.1, by rw [HX.out.2.1]; exact HIO.out.2.2.2.2⟩)
  have z7 : wc.cell? ⟨w.heap.size, 0, none⟩ = some (.pointer (some ⟨p.c (!s.hot), 0, none⟩)) := hsy.win.h7.cell rfl
  have z8 : wc.cell? ⟨w.heap.size + 1, 0, none⟩ = some (.pointer (some ⟨p.c s.hot, 0, none⟩)) := hsy.win.h8.cell rfl
  clear hsy hy HX HIO HGO HQ6 HQ5 HQ4 HSE HSI
  have hcc : p.c (!s.hot) ≠ p.c s.hot := by have := HH.out.cc; cases s.hot <;> simp <;> omega
  have HAR := Lib.hid (addAndReset_nil (p.c (!s.hot)) (p.c s.hot) (p.b (!s.hot)) (p.b s.hot) (s.c (!s.hot)) (s.c s.hot) wc (HSY.out.win.hc _) (HSY.out.win.hc _) hcc (HH.out.bk _) (by have h1 := (HH.out.cm (!s.hot)).1; have h2 := (HH.out.cm s.hot).1; have := HM.out; omega) (by have h1 := (HH.out.cm (!s.hot)).2.1; have h2 := (HH.out.cm s.hot).2.1; have := HM.out; omega))
  go_wp2_with fail
  refine HAR.out.mono ?_
  rintro e w8 ⟨rfl, r, hadd, h1, h2, ho8⟩
  have hlo : ∀ k, k = p.h ∨ (∃ i, k = p.c i) ∨ (∃ i, Z i k) → k < w.heap.size := fun k hk => by
    rcases hk with rfl | ⟨i, rfl⟩ | ⟨i, hk⟩
    · exact HH.out.hh.lt
    · exact (HH.out.hc i).lt
    · exact (HH.out.zo i k hk).2.2.2
  have hwz := HSY.out.only.size
  have HD : Hid (DIn w.heap.size (w.heap.size + 1) (p.c s.hot) (p.c (!s.hot)) (p.b s.hot) (p.b (!s.hot)) m m (s.c s.hot).leftN ((s.c (!s.hot)).takeN (s.c s.hot) r) (Z s.hot) (Z (!s.hot)) w8) := Lib.hid (by
    have hcl := fun i => hlo (p.c i) (.inr (.inl ⟨i, rfl⟩))
    have hc1 := hcl (!s.hot)
    have hc2 := hcl s.hot
    have hz8 := ho8.size
    have hzo := fun i k hk => HH.out.zo i k hk
    refine ⟨ho8.isBlock HSY.out.win.h7 (fun e => by omega), ho8.isBlock HSY.out.win.h8 (fun e => by omega), h2, h1, (HSY.out.win.nst s.hot).kept ho8 (fun k hk e => ?_), (HSY.out.win.nst (!s.hot)).kept ho8 (fun k hk e => ?_), fun k hk => ?_, fun k hk => ?_, ⟨hcc.symm, by omega, by omega⟩⟩
    · rcases e with e | e
      · exact (hzo _ k hk).2.1 _ e
      · exact (hzo _ k hk).2.1 _ e
    · rcases e with e | e
      · exact (hzo _ k hk).2.1 _ e
      · exact (hzo _ k hk).2.1 _ e
    · obtain ⟨a, b, c, d⟩ := hzo _ k hk
      exact ⟨b _, b _, by omega, by omega, by omega⟩
    · obtain ⟨a, b, c, d⟩ := hzo _ k hk
      exact ⟨b _, b _, by omega, by omega, by omega, HH.out.zz (!s.hot) s.hot k (by cases s.hot <;> decide) hk⟩)
  have HO8 := Lib.hid ho8
  have HLO := Lib.hid hlo
  clear hadd h1 h2 ho8 hlo HAR z7 z8
  go_wp2_with fail
  refine leaves_cons (f := 254) (args := #[.pointer (some ⟨w.heap.size + 1, 0, none⟩), .pointer (some ⟨w.heap.size, 0, none⟩)]) (by simp) (by simp [go_sem]) ?_
  refine (writeD_any w.heap.size (w.heap.size + 1) _ _ _ _ m _ _ _ _ w8 .returning HD.out HM.out).mono ?_
  rintro e u' wE ⟨rfl, rfl, ⟨s', Zh', mh, r1, r2, r3⟩, ho9⟩
  have hE : Only (fun k => NOwn p Z k) wc wE := (HO8.out.mono (fun k _ e => .inr (.inl (e.elim (fun e => ⟨_, e⟩) (fun e => ⟨_, e⟩))))).trans (ho9.mono (fun k _ e => by
    rcases e with e | e | e
    · exact .inr (.inr ⟨_, e⟩)
    · exact .inr (.inl ⟨_, e⟩)
    · exact .inr (.inr ⟨_, e⟩)))
  have hhE : IsBlock wE p.h ((((s.cells p).set 7 (.slice none 0 0)).set 3 (.int .i32 1)).set 0 (.int .u64 (idxVal s.n (!s.hot)))) := ho9.isBlock (HO8.out.isBlock HSY.out.win.hh (fun e => e.elim (fun e => HH.out.hne _ e) (fun e => HH.out.hne _ e))) (fun e => by
    rcases e with e | e | e
    · exact (HH.out.zo _ _ e).1 rfl
    · exact HH.out.hne _ e
    · exact (HH.out.zo _ _ e).1 rfl)
  have m3 : wE.cell? ⟨p.h, 3, none⟩ = some (.int .i32 1) := hhE.cell rfl
  have mf := hhE.free 3
  refine leaves_cons (f := 245) (args := #[.pointer (some ⟨p.h, 3, none⟩)]) (by show FrameMode.returning ≠ FrameMode.run; simp) (by simp [go_sem]) ?_
  refine (unlock_deferred muLib ⟨p.h, 3, none⟩ .returning _ m3 mf).mono ?_
  rintro e u' w'' ⟨rfl, rfl, rfl⟩
  refine ⟨_, results_tmp rfl _ _ _, rfl, ?_⟩
  have hF : Only (fun k => NOwn p Z k) wc (wE.setCell ⟨p.h, 3, none⟩ (.int .i32 0)) := hE.setCell (p := ⟨p.h, 3, none⟩) (.inl (.inl rfl)) _
  refine ⟨_, _, _, _, _, tn, tp', HND.out.1.mono hF (fun k hk => HLO.out k hk), HND.out.2.1, HND.out.2.2.1, HND.out.2.2.2.1, HND.out.2.2.2.2, hF.isBlock HSY.out.win.ho (fun e => ?_), (HSY.out.only.mono (fun k _ e => e.elim (fun e => .inr (.inl e)) .inl)).trans (hF.mono (fun _ _ e => .inr e))⟩
  rcases e with e | e | e
  · exact hoh e
  · exact HOO.out out (.inr (.inl e)) rfl
  · exact HOO.out out (.inr (.inr (.inr e))) rfl
end Go.Proofs.YtebjclmbacmilaaGreatDoor
