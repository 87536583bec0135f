/- Contract of (*histogram).Write where there are classic buckets alone and the bucket without bound has no exemplar. Conditions: as stated. -/
import Derived.Test.YtebjclmbacmilaaGreatDoorxWl
namespace Go.Proofs.YtebjclmbacmilaaGreatDoor
open Go.RowKit Go.MuLone

theorem blk_new' (w : World) (cs : List Value) (T : TypeId) (k : Nat) (h : k = w.heap.size) : IsBlock (w.alloc (.cells cs.toArray T)) k cs := by subst h; exact IsBlock.new w cs T

theorem ta_178 (e : Nat) (w : World) : (Instr.typeAssert (.iface 178 (.pointer (some ⟨e, 0, none⟩))) 20 178 false).run Tryz.prog w = .ok (.pointer (some ⟨e, 0, none⟩)) w := by kernel_rfl

set_option maxRecDepth 100000 in
set_option maxHeartbeats 1600000 in
theorem write_plain (p : Pl) (s : HSt) (out : Nat) (w : World) (H : HIn w p s) (hs : s.sch = -2147483648) (hn62 : s.n ≤ 4611686018427387904) (hout : IsBlock w out mNew) (hoh : out ≠ p.h) (hoo : ∀ k, p.own k ∨ k = p.u → out ≠ k) (hbl : s.bounds.length ≤ 4611686018427) (hlab : p.labels = .slice none 0 0) (hmk : ∀ m ∈ s.marks, m = .nilIface ∨ ∃ e, m = .iface 178 (.pointer (some ⟨e, 0, none⟩))) (hsum : (s.c s.hot).bk.sum ≤ 4611686018427387904) (hml : mk s.marks s.bounds.length = .nilIface) :
    Calls Tryz.prog 239 #[.pointer (some ⟨p.h, 0, none⟩), .pointer (some ⟨out, 0, none⟩)] w fun e w' => e = .returned .nilIface ∧ ∃ (q : HisPl) (bl : List BP) (r : Nat), AddTo 0 (s.c s.hot).sum r ∧ HIn w' p (s.wrote r) ∧ Done w' w.heap.size q bl s.n (s.c s.hot).sum s.last ∧
      bl.map (fun x => (x.cum, x.up, x.mark)) = (List.range s.bounds.length).map (bVal (s.c s.hot).bk s.bounds s.marks) ∧ IsBlock w' out (mDone q.g) ∧ Only (fun k => p.own k ∨ k = out) w w' := by
  have HOO := Lib.hid hoo
  have hn : s.n < 2 ^ 63 := by omega
  have A := H.apart
  have c3 := H.hh.cell (i := 3) rfl
  have f3 := H.hh.free 3
  have c0 := H.hh.cell (i := 0) rfl
  have f0 := H.hh.free 0
  have c5 := H.cIdx (!s.hot)
  have c6 := H.cIdx s.hot
  have d1 := idxVal_div s.n (!s.hot) hn
  have d2 := idxVal_and s.n (!s.hot) hn
  have d3 := idxVal_not s.n (!s.hot) hn
  rw [Bool.not_not] at d3
  have hsg : IntKind.u64.signed = false := rfl
  have lh := H.hh.lt
  have b1 := (hotIdx_bd (!s.hot)).1
  have b2 := (hotIdx_bd (!s.hot)).2
  have b3 := (hotIdx_bd s.hot).1
  have b4 := (hotIdx_bd s.hot).2
  have h1 := idxVal_flip (w := w.setCell ⟨p.h, 3, none⟩ (.int .i32 1)) (a := ⟨p.h, 0, none⟩) (n := s.n) (hot := s.hot) (by rw [World.cell?_setCell_other _ _ _ _ (by simp)]; exact c0) (by rw [World.frozen?_setCell]; exact f0) hn
  go_enter_defers Tryz.func239, Tryz.ntmps239
  go_wp2_with (go_at_call 244; refine (lock_free muLib ⟨p.h, 3, none⟩ _ c3 f3).mono ?_; rintro e w' ⟨rfl, rfl⟩)
  refine (?_ : ∀ w4, w4 = _ → Calls Tryz.prog 247 _ w4 _) _ rfl
  intro w4 hw4
  have HW4 : Hid (WIn w4 p s w.heap.size (w.heap.size + 1) out mNew) := Lib.hid (by
    have hne : ∀ {b : Nat}, p.h ≠ b → b ≠ p.h := fun h k => h k.symm
    rw [hw4]
    exact {
      hh := (((H.hh.set 3 (.int .i32 1)).set 0 (.int .u64 (idxVal s.n (!s.hot)))).alloc _).alloc _
      hc := fun i => ((((H.hc i).set_ne (a := ⟨p.h, 3, none⟩) (hne (A.hc i)) _).set_ne (a := ⟨p.h, 0, none⟩) (hne (A.hc i)) _).alloc _).alloc _
      hb := fun i => ((((H.hb i).set_ne (a := ⟨p.h, 3, none⟩) (hne (A.hb i)) _).set_ne (a := ⟨p.h, 0, none⟩) (hne (A.hb i)) _).alloc _).alloc _
      hu := (((H.hu.set_ne (a := ⟨p.h, 3, none⟩) (hne A.hu) _).set_ne (a := ⟨p.h, 0, none⟩) (hne A.hu) _).alloc _).alloc _
      hx := (((H.hx.set_ne (a := ⟨p.h, 3, none⟩) (hne A.hx) _).set_ne (a := ⟨p.h, 0, none⟩) (hne A.hx) _).alloc _).alloc _
      h7 := by
        have h := (IsBlock.new ((w.setCell ⟨p.h, 3, none⟩ (.int .i32 1)).setCell ⟨p.h, 0, none⟩ (.int .u64 (idxVal s.n (!s.hot)))) [.pointer (some ⟨p.c (!s.hot), 0, none⟩)] 238).alloc (.cells #[.pointer (some ⟨p.c s.hot, 0, none⟩)] 238)
        simp only [World.size_setCell] at h
        exact h
      h8 := by
        have h := IsBlock.new (((w.setCell ⟨p.h, 3, none⟩ (.int .i32 1)).setCell ⟨p.h, 0, none⟩ (.int .u64 (idxVal s.n (!s.hot)))).alloc (.cells #[.pointer (some ⟨p.c (!s.hot), 0, none⟩)] 238)) [.pointer (some ⟨p.c s.hot, 0, none⟩)] 238
        simp only [World.size_alloc, World.size_setCell] at h
        exact h
      ho := (((hout.set_ne (a := ⟨p.h, 3, none⟩) hoh _).set_ne (a := ⟨p.h, 0, none⟩) hoh _).alloc _).alloc _ })
  have HO4 : Hid (Only (fun k => k = p.h ∨ k = out) w w4) := Lib.hid (by
    rw [hw4]
    exact ((((Only.refl _ w).setCell (p := ⟨p.h, 3, none⟩) (.inl (.inl rfl)) _).setCell (p := ⟨p.h, 0, none⟩) (.inl (.inl rfl)) _).alloc _).alloc _)
  have HZ4 : Hid (w4.heap.size = w.heap.size + 2) := Lib.hid (by rw [hw4]; simp)
  clear hw4 h1 b1 b2 b3 b4 d1 d2 d3 c5 c6 c3 f3 c0 f0 hsg
  refine (cooldown_any _ _ _).mono ?_
  rintro e w' ⟨rfl, rfl⟩
  go_wp2_with fail
  refine writeRegion8_any p s w.heap.size (w.heap.size + 1) out mNew _ HW4.out hbl _ _ _ _ _ _ _ _ _ _ _ _ _ _ _ _ _ _ _ _ _ _ _ _ _ _ _ _ _ _ _ _ _ _ _ _ _ _ _ _ ?_
  intro q y48 y49 y50 y51 y52 y53 y54 y55 y56 y57 y58 y59 y60 y61 y62 y63 y64 y65 y66 y67 y68 y69 wc hq
  have W8 := HW4.out.kept hq.only (fun _ h => h.elim)
  have o5 : wc.cell? ⟨out, 5, none⟩ = some (.pointer none) := W8.ho.cell rfl
  have o0 : wc.cell? ⟨out, 0, none⟩ = some (.slice none 0 0) := W8.ho.cell rfl
  have fo := W8.ho.free
  have fo5 := fo 5
  have fo0 := fo 0
  have k7 : wc.cell? ⟨p.h, 7, none⟩ = some (.slice (some ⟨p.u, 0, none⟩) s.bounds.length p.ucap) := W8.hh.cell rfl
  have k8 : wc.cell? ⟨p.h, 8, none⟩ = some (.slice none 0 0) := by rw [← hlab]; exact W8.hh.cell rfl
  have hph : ¬ p.h = out := fun h => hoh h.symm
  have HQ := Lib.hid hq
  have HW8 := Lib.hid W8
  clear fo W8 hq
  go_upto_region 11 with fail
  refine (?_ : ∀ w9, w9 = _ → Code.wp _ _ _ _ w9) _ rfl
  intro w9 hw9
  have hol := hout.lt
  have hz4 := HZ4.out
  have hqs : QS p w.heap.size (w.heap.size + 1) out q w'.heap.size wc.heap.size := {
    lo := HW4.out.lt
    g1 := ⟨HQ.out.g1, HQ.out.hg.lt⟩
    g2 := ⟨HQ.out.g2, HQ.out.ha.lt⟩
    g3 := ⟨HQ.out.g3, HQ.out.hc.lt⟩
    g4 := ⟨HQ.out.g4, HQ.out.hs.lt⟩
    g5 := ⟨HQ.out.g5, HQ.out.ht.lt⟩
    n1 := HQ.out.n1
    n2 := HQ.out.n2
    n3 := HQ.out.n3 }
  have HR0 : Hid (LRel w p s w.heap.size (w.heap.size + 1) out (mDone q.g) q w'.heap.size wc.heap.size 0 [] w9) := Lib.hid (by
    have hno : ∀ k, p.own k ∨ k = p.u ∨ k = w.heap.size ∨ k = w.heap.size + 1 → k ≠ out := fun k hk e => by
      rcases hk with h | h | h | h
      · exact hoo k (.inl h) e.symm
      · exact hoo k (.inr h) e.symm
      · omega
      · omega
    have g1 := hqs.g1
    have g2 := hqs.g2
    have g3 := hqs.g3
    have g4 := hqs.g4
    have g5 := hqs.g5
    have ol : out < w'.heap.size := hqs.lo _ .out
    rw [hw9]
    exact {
      win := (HW8.out.setOut hno 5 _).setOut hno 0 _
      qs := hqs
      hg := (HQ.out.hg.set_ne (a := ⟨out, 5, none⟩) (by show q.g ≠ out; omega) _).set_ne (a := ⟨out, 0, none⟩) (by show q.g ≠ out; omega) _
      hc := (HQ.out.hc.set_ne (a := ⟨out, 5, none⟩) (by show q.pc ≠ out; omega) _).set_ne (a := ⟨out, 0, none⟩) (by show q.pc ≠ out; omega) _
      hs := (HQ.out.hs.set_ne (a := ⟨out, 5, none⟩) (by show q.ps ≠ out; omega) _).set_ne (a := ⟨out, 0, none⟩) (by show q.ps ≠ out; omega) _
      ht := (HQ.out.ht.set_ne (a := ⟨out, 5, none⟩) (by show q.pt ≠ out; omega) _).set_ne (a := ⟨out, 0, none⟩) (by show q.pt ≠ out; omega) _
      ha := (HQ.out.ha.set_ne (a := ⟨out, 5, none⟩) (by show q.arr ≠ out; omega) _).set_ne (a := ⟨out, 0, none⟩) (by show q.arr ≠ out; omega) _
      len := rfl
      ins := fun x hx => by cases hx
      vals := rfl
      only := ((HO4.out.trans (HQ.out.only.mono (fun _ _ h => h.elim))).setCell (p := ⟨out, 5, none⟩) (.inl (.inr rfl)) _).setCell (p := ⟨out, 0, none⟩) (.inl (.inr rfl)) _
      aw := by omega
      bsz := by simp })
  clear hw9 o5 o0 fo5 fo0 k7 k8 HQ HW8 HW4 HO4 hout hoh hoo hqs lh
  have k7 : w9.cell? ⟨p.h, 7, none⟩ = some (.slice (some ⟨p.u, 0, none⟩) s.bounds.length p.ucap) := HR0.out.win.hh.cell rfl
  have hbl' : (s.bounds.length : Int) ≤ 4611686018427 := by omega
  have HH := Lib.hid H
  have HN := Lib.hid hn62
  have HBL := Lib.hid hbl
  have HMK := Lib.hid hmk
  have HSM := Lib.hid hsum
  have HS := Lib.hid hs
  have HML := Lib.hid hml
  clear hml
  clear H hn hn62 hbl hmk hsum A hs hph hlab
  go_wp2_with fail
  go_loopw [10, 86] (fun c i wr => ∃ (k : Nat) (bl : List BP), k ≤ s.bounds.length ∧ i = .int .i64 k ∧ c = .int .u64 (cumN (s.c s.hot).bk k : Nat) ∧ LRel w p s w.heap.size (w.heap.size + 1) out (mDone q.g) q w'.heap.size wc.heap.size k bl wr) (fun _ i _ => s.bounds.length - (intOf i).toNat)
  case atStart => exact ⟨0, [], Nat.zero_le _, rfl, rfl, HR0.out⟩
  case round =>
    obtain ⟨k, bl, hk, rfl, rfl, hR⟩ := hrel
    have HR := Lib.hid hR
    clear hR
    by_cases hkn : k < s.bounds.length
    · have hk0 : (0 : Int) ≤ (k : Int) := by omega
      have hk1 : (k : Int) < (s.bounds.length : Int) := by omega
      have hlb := HH.out.lb s.hot
      have HCS := Lib.hid (cumN_succ (s.c s.hot).bk k (by omega))
      have k8 : wr.cell? ⟨w.heap.size + 1, 0, none⟩ = some (.pointer (some ⟨p.c s.hot, 0, none⟩)) := HR.out.win.h8.cell rfl
      have k6 : wr.cell? ⟨p.c s.hot, 6, none⟩ = some (.slice (some ⟨p.b s.hot, 0, none⟩) (s.c s.hot).bk.length (s.c s.hot).bk.length) := (HR.out.win.hc s.hot).cell rfl
      rw [hlb] at k6
      have cb : wr.cell? ⟨p.b s.hot, k, none⟩ = some (.int .u64 (wd (s.c s.hot).bk k : Nat)) := (HR.out.win.hb s.hot).cell (getD_u64s (by omega))
      have cu : wr.cell? ⟨p.u, k, none⟩ = some (.float .f64 (wd s.bounds k)) := HR.out.win.hu.cell (getD_f64s hkn)
      have q1 : ((cumN (s.c s.hot).bk k : Nat) : Int) + ((wd (s.c s.hot).bk k : Nat) : Int) ≤ 4611686018427387904 := by
        have := cumN_le (s.c s.hot).bk (k + 1); have := HCS.out; have := HSM.out; omega
      have q2 : (0 : Int) ≤ ((cumN (s.c s.hot).bk k : Nat) : Int) := by omega
      have q3 : (0 : Int) ≤ ((wd (s.c s.hot).bk k : Nat) : Int) := by omega
      clear hlb
      go_wp2_with fail
      have e2 : wr.cell? ⟨q.g, 2, none⟩ = some (.slice (some ⟨q.arr, 0, none⟩) s.bounds.length s.bounds.length) := HR.out.hg.cell rfl
      have ek : wr.cell? ⟨q.arr, k, none⟩ = some (.pointer none) := HR.out.arr_cell hkn
      have fk : wr.frozen? ⟨q.arr, k, none⟩ = false := HR.out.ha.free k
      clear cb cu k6 k8 q1 q2 q3
      have hlt : q.arr < wr.heap.size := HR.out.ha.lt
      have hlt1 : q.arr < wr.heap.size + 1 := by omega
      have hlt2 : q.arr < wr.heap.size + 1 + 1 := by omega
      have hlt3 : q.arr < wr.heap.size + 2 := by omega
      have hga : q.g ≠ q.arr := fun h => HR.out.qs.n1 h.symm
      have hne : (⟨q.arr, k, none⟩ : Addr) ≠ ⟨q.g, 2, none⟩ := fun h => hga (congrArg Addr.block h).symm
      go_region_held3 (fun wx => wx.cell? ⟨q.g, 2, none⟩ = some (.slice (some ⟨q.arr, 0, none⟩) s.bounds.length s.bounds.length))
        ((simp only [World.cell?_drew]; repeat (first | assumption | apply cell_past | rw [World.cell?_setCell_other _ _ _ _ hne])))
        (first
          | (go_at_call 248; refine (ofU64_any _ _).mono ?_; rintro e w' ⟨rfl, rfl⟩)
          | (go_at_call 249; refine (ofF64_any _ _).mono ?_; rintro e w' ⟨rfl, rfl⟩))
      refine (?_ : ∀ w5, w5 = _ → Exit.then _ _ _ _ w5) _ rfl
      intro w5 hw5
      have HO5 : Hid (Only (fun j => j = q.arr) wr w5) := Lib.hid (by
        rw [hw5]; exact (((((Only.refl (fun j => j = q.arr) wr).setCell (p := ⟨q.arr, k, none⟩) (.inl rfl) _).alloc _).alloc _).alloc _).drew)
      have HA5 : Hid (IsBlock w5 q.arr ((bl.map BP.ptr ++ List.replicate (s.bounds.length - k) (Value.pointer none)).set k (.pointer (some ⟨wr.heap.size + 1 + 1, 0, none⟩)))) := Lib.hid (by
        rw [hw5]; exact ((((HR.out.ha.set k _).alloc _).alloc _).alloc _).drew)
      have HC5 : Hid (IsBlock w5 wr.heap.size [.int .u64 (cumN (s.c s.hot).bk (k + 1) : Nat)]) := Lib.hid (by
        rw [hw5, HCS.out]
        have h := IsBlock.new (wr.setCell ⟨q.arr, k, none⟩ (.pointer (some ⟨wr.heap.size + 1 + 1, 0, none⟩))) [.int .u64 ((cumN (s.c s.hot).bk k : Nat) + (wd (s.c s.hot).bk k : Nat) : Int)] 30
        rw [World.size_setCell] at h
        exact ((h.alloc _).alloc _).drew)
      have HU5 : Hid (IsBlock w5 (wr.heap.size + 1) [.float .f64 (wd s.bounds k)]) := Lib.hid (by
        rw [hw5]
        exact (IsBlock.alloc (blk_new' _ [.float .f64 (wd s.bounds k)] 25 _ (by simp)) _).drew)
      have HB5 : Hid (IsBlock w5 (wr.heap.size + 1 + 1) [.pointer (some ⟨wr.heap.size, 0, none⟩), .pointer (some ⟨wr.heap.size + 1, 0, none⟩), .pointer none]) := Lib.hid (by
        rw [hw5]
        exact (blk_new' _ [.pointer (some ⟨wr.heap.size, 0, none⟩), .pointer (some ⟨wr.heap.size + 1, 0, none⟩), .pointer none] 180 _ (by simp)).drew)
      have HN5 := Lib.hid (HR.out.next hkn ⟨wr.heap.size + 1 + 1, wr.heap.size, wr.heap.size + 1, cumN (s.c s.hot).bk (k + 1), wd s.bounds k, .pointer none⟩ w5 HO5.out HA5.out ⟨HB5.out, HC5.out, HU5.out, by have := HR.out.bsz; show _ ≤ wr.heap.size + 1 + 1; omega, HR.out.bsz, by have := HR.out.bsz; show _ ≤ wr.heap.size + 1; omega⟩)
      have W5 := HR.out.win.mono HO5.out (fun j hj e => by have := HR.out.qs.lo j hj; have := HR.out.qs.g2; omega)
      have k9 : w5.cell? ⟨p.h, 9, none⟩ = some (.slice (some ⟨p.ex, 0, none⟩) (s.bounds.length + 1) (s.bounds.length + 1)) := W5.hh.cell rfl
      have hk2 : (k : Int) < (s.bounds.length : Int) + 1 := by omega
      have cx : w5.cell? ⟨p.ex, k, none⟩ = some (mk s.marks k) := W5.hx.cell (getD_mk (by have := HH.out.lx; omega))
      have g2 : w5.cell? ⟨q.g, 2, none⟩ = some (.slice (some ⟨q.arr, 0, none⟩) s.bounds.length s.bounds.length) := (HO5.out.isBlock HR.out.hg hga).cell rfl
      have ca : w5.cell? ⟨q.arr, k, none⟩ = some (.pointer (some ⟨wr.heap.size + 1 + 1, 0, none⟩)) := HA5.out.cell (by rw [List.getElem?_set_self (by have := HR.out.len; simp; omega)])
      have c2 := HB5.out.cell (i := 2) rfl
      have f2 := HB5.out.free 2
      have hm := HMK.out (mk s.marks k) (List.mem_of_getElem? (getD_mk (by have := HH.out.lx; omega)))
      clear hw5 hlt hlt1 hlt2 hlt3 hne hga e2 ek fk W5
      rcases hm with hm | ⟨e, hm⟩
      · rw [hm] at cx
        have HM := Lib.hid hm
        clear hm g2 ca c2 f2
        go_wp2_with fail
        go_roundw
        case rel => exact ⟨k + 1, _, hkn, by go_num, by rw [HCS.out]; go_num, HN5.out (by unfold bVal; rw [HM.out]; rfl)⟩
        case measure => simp [intOf]; omega
      · rw [hm] at cx
        have HM := Lib.hid hm
        clear hm
        have hlq : q.arr < wr.heap.size := HR.out.ha.lt
        have HN6 : Hid (LRel w p s w.heap.size (w.heap.size + 1) out (mDone q.g) q w'.heap.size wc.heap.size (k + 1) (bl ++ [⟨wr.heap.size + 1 + 1, wr.heap.size, wr.heap.size + 1, cumN (s.c s.hot).bk (k + 1), wd s.bounds k, .pointer (some ⟨e, 0, none⟩)⟩]) ((w5.setCell ⟨wr.heap.size + 1 + 1, 2, none⟩ (.pointer (some ⟨e, 0, none⟩))).drew)) := Lib.hid (by
          refine HR.out.next hkn _ _ ((HO5.out.setCell (p := ⟨wr.heap.size + 1 + 1, 2, none⟩) (.inr (by show wr.heap.size ≤ wr.heap.size + 1 + 1; omega)) _).drew) (HA5.out.set_ne (a := ⟨wr.heap.size + 1 + 1, 2, none⟩) (by show q.arr ≠ wr.heap.size + 1 + 1; omega) _).drew ⟨(HB5.out.set 2 (.pointer (some ⟨e, 0, none⟩))).drew, (HC5.out.set_ne (a := ⟨wr.heap.size + 1 + 1, 2, none⟩) (by show wr.heap.size ≠ wr.heap.size + 1 + 1; omega) _).drew, (HU5.out.set_ne (a := ⟨wr.heap.size + 1 + 1, 2, none⟩) (by show wr.heap.size + 1 ≠ wr.heap.size + 1 + 1; omega) _).drew, by have := HR.out.bsz; show _ ≤ wr.heap.size + 1 + 1; omega, HR.out.bsz, by have := HR.out.bsz; show _ ≤ wr.heap.size + 1; omega⟩ ?_
          unfold bVal; rw [HM.out]; rfl)
        clear hlq
        have hta := ta_178 e
        go_wp2_with fail
        go_region
        go_wp2_with fail
        go_roundw
        case rel => exact ⟨k + 1, _, hkn, by go_num, by rw [HCS.out]; go_num, HN6.out⟩
        case measure => simp [intOf]; omega
    · have hke : k = s.bounds.length := by omega
      subst hke
      have hk1 : ¬ (s.bounds.length : Int) < (s.bounds.length : Int) := by omega
      clear hkn hk
      have k9 : wr.cell? ⟨p.h, 9, none⟩ = some (.slice (some ⟨p.ex, 0, none⟩) (s.bounds.length + 1) (s.bounds.length + 1)) := HR.out.win.hh.cell rfl
      have k7 : wr.cell? ⟨p.h, 7, none⟩ = some (.slice (some ⟨p.u, 0, none⟩) s.bounds.length p.ucap) := HR.out.win.hh.cell rfl
      have cx : wr.cell? ⟨p.ex, s.bounds.length, none⟩ = some (mk s.marks s.bounds.length) := HR.out.win.hx.cell (getD_mk (by have := HH.out.lx; omega))
      have k10 : wr.cell? ⟨p.h, 10, none⟩ = some (.int .i32 (-2147483648)) := by have h := HR.out.win.hh.cell (i := 10) (v := .int .i32 s.sch) rfl; rw [HS.out] at h; exact h
      have z7 : wr.cell? ⟨w.heap.size, 0, none⟩ = some (.pointer (some ⟨p.c (!s.hot), 0, none⟩)) := HR.out.win.h7.cell rfl
      have z8 : wr.cell? ⟨w.heap.size + 1, 0, none⟩ = some (.pointer (some ⟨p.c s.hot, 0, none⟩)) := HR.out.win.h8.cell rfl
      have hk2 : (s.bounds.length : Int) < (s.bounds.length : Int) + 1 := by omega
      rw [HML.out] at cx
      go_wp2_with fail
      go_region
      go_wp2_with fail
      have A := HH.out.apart
      have hlb : ∀ i, (s.c i).bk.length = s.bounds.length := HH.out.lb
      have hcold := HH.out.cold
      have hbd := HH.out.bd
      have hcd := HH.out.cd
      have hzd := HH.out.zd
      have hn := HN.out
      have hz : ∀ k, wd (s.c (!s.hot)).bk k = 0 := fun k => by
        rw [hcold.bk]
        unfold wd
        rw [List.getD_eq_getElem?_getD, List.getElem?_replicate]
        split <;> rfl
      have hb5 : p.b (!s.hot) ≠ p.b s.hot := by have := A.bb; cases s.hot <;> simp <;> omega
      have hc5 : p.c (!s.hot) ≠ p.c s.hot := by have := A.cc; cases s.hot <;> simp <;> omega
      have HAR := Lib.hid (addAndReset_any (p.c (!s.hot)) (p.c s.hot) (p.b (!s.hot)) (p.b s.hot) (s.c (!s.hot)) (s.c s.hot) wr.drew (HR.out.win.hc _).drew (HR.out.win.hc _).drew (HR.out.win.hb _).drew (HR.out.win.hb _).drew
        hc5 (A.cb _ _) (A.cb _ _) (A.cb _ _) (A.cb _ _) hb5 (by rw [hlb, hlb]) (by rw [hlb]; have := HBL.out; omega) (by rw [hcold.cnt]; omega) (by rw [hcold.zero]; omega) (fun k => by rw [hz]; have := hbd k; omega))
      rw [hcold.sum] at HAR
      clear hlb hcold hbd hcd hzd hn hz hb5 hc5 A cx k10 k9 z7 z8
      refine HAR.out.mono ?_
      rintro e w1 ⟨rfl, r, hadd, h1, h2, h3, h4, ho⟩
      have HI := Lib.hid (HH.out.wrote HR.out.win r h1 h2 h3 h4 ((Only.refl _ wr).drew.trans ho))
      have m1 := ho.isBlock HR.out.win.hh.drew (by
        have A := HH.out.apart
        rintro (h | h | h | h)
        · exact A.hc _ h
        · exact A.hc _ h
        · exact A.hb _ h
        · exact A.hb _ h)
      have m3 : w1.cell? ⟨p.h, 3, none⟩ = some (.int .i32 1) := m1.cell rfl
      have mf := m1.free 3
      have hown : ∀ k, k = p.c (!s.hot) ∨ k = p.c s.hot ∨ k = p.b (!s.hot) ∨ k = p.b s.hot → p.own k := fun k hk => by
        rcases hk with rfl | rfl | rfl | rfl
        · cases s.hot; exact .inr (.inr (.inl rfl)); exact .inr (.inl rfl)
        · cases s.hot; exact .inr (.inl rfl); exact .inr (.inr (.inl rfl))
        · cases s.hot; exact .inr (.inr (.inr (.inr (.inl rfl)))); exact .inr (.inr (.inr (.inl rfl)))
        · cases s.hot; exact .inr (.inr (.inr (.inl rfl))); exact .inr (.inr (.inr (.inr (.inl rfl))))
      have HON : Hid (Only (fun k => p.own k ∨ k = out) w (w1.setCell ⟨p.h, 3, none⟩ (.int .i32 0))) := Lib.hid
        (((HR.out.only.mono (T := fun k => p.own k ∨ k = out) (fun k _ hk => hk.imp (fun e => .inl e) id)).drew.trans (ho.mono (fun k _ hk => .inl (hown k hk)))).setCell (p := ⟨p.h, 3, none⟩) (.inl (.inl (.inl rfl))) _)
      have hoD : Only (fun k => p.own k) wr (w1.setCell ⟨p.h, 3, none⟩ (.int .i32 0)) := ((Only.refl _ wr).drew.trans (ho.mono (fun k _ hk => hown k hk))).setCell (p := ⟨p.h, 3, none⟩) (.inl (.inl rfl)) _
      have hlow : ∀ k, p.own k → k < w.heap.size := fun k hk => by
        rcases hk with rfl | rfl | rfl | rfl | rfl | rfl
        · exact HH.out.hh.lt
        · exact (HH.out.hc _).lt
        · exact (HH.out.hc _).lt
        · exact (HH.out.hb _).lt
        · exact (HH.out.hb _).lt
        · exact HH.out.hx.lt
      have HD : Hid (Done (w1.setCell ⟨p.h, 3, none⟩ (.int .i32 0)) w.heap.size q bl s.n (s.c s.hot).sum s.last) := Lib.hid (HR.out.done.mono hoD hlow)
      have HOU : Hid (IsBlock (w1.setCell ⟨p.h, 3, none⟩ (.int .i32 0)) out (mDone q.g)) := Lib.hid (hoD.isBlock HR.out.win.ho (fun hk => HOO.out out (.inl hk) rfl))
      have HADD := Lib.hid hadd
      clear hadd h1 h2 h3 h4 ho m1 hown hoD hlow HAR
      go_wp2_with fail
      refine leaves_cons (f := 245) (args := #[.pointer (some ⟨p.h, 3, none⟩)]) (by simp) (by simp [go_sem]) ?_
      refine (unlock_deferred muLib ⟨p.h, 3, none⟩ .returning _ m3 mf).mono ?_
      rintro e u' w'' ⟨rfl, rfl, rfl⟩
      refine ⟨_, results_tmp rfl _ _ _, rfl, ?_⟩
      exact ⟨q, bl, r, HADD.out, HI.out, HD.out, by have := HR.out.vals; exact this, HOU.out, HON.out⟩
end Go.Proofs.YtebjclmbacmilaaGreatDoor
