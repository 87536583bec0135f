/- Contract of HistRun of the thin package, classic, bounds in order, without exemplars. Conditions: as stated. -/
import Derived.Test.YtebjclmbacmilaaGreatDoorxAp
import Derived.Test.YtebjclmbacmilaaGreatDoorxNk
namespace Go.Proofs.YtebjclmbacmilaaGreatDoor
open Go.RowKit

def effBs (bs : List Nat) : List Nat := if bs = [] then defBs else bs
theorem info25 : (Tryz.prog.info? 25).map (fun i => (i.zero, i.size, i.bytes)) = some (some (.float .f64 0), 1, 8) := by kernel_rfl
theorem one_f64s (bs : List Nat) : ∀ u ∈ f64s bs, u.oneCell' = true := by
  intro u hu
  obtain ⟨n, _, rfl⟩ := List.mem_map.1 hu
  rfl

def sVals (bsl : Value) (fac zt : Nat) (maxB mr : Int) (maxZero : Nat) (mex ttl : Int) : List Value := [bsl, .float .f64 fac, .float .f64 zt, .int .u32 maxB, .int .i64 mr, .float .f64 maxZero, .int .i64 mex, .int .i64 ttl]

theorem cells8 {w : World} {b : Nat} {bsl : Value} {fac zt : Nat} {maxB mr : Int} {maxZero : Nat} {mex ttl : Int} (h : IsBlock w b (sVals bsl fac zt maxB mr maxZero mex ttl)) :
    w.cell? ⟨b, 0, none⟩ = some bsl ∧ w.cell? ⟨b, 1, none⟩ = some (.float .f64 fac) ∧ w.cell? ⟨b, 2, none⟩ = some (.float .f64 zt) ∧ w.cell? ⟨b, 3, none⟩ = some (.int .u32 maxB) ∧ w.cell? ⟨b, 4, none⟩ = some (.int .i64 mr) ∧
    w.cell? ⟨b, 5, none⟩ = some (.float .f64 maxZero) ∧ w.cell? ⟨b, 6, none⟩ = some (.int .i64 mex) ∧ w.cell? ⟨b, 7, none⟩ = some (.int .i64 ttl) :=
  ⟨h.cell rfl, h.cell rfl, h.cell rfl, h.cell rfl, h.cell rfl, h.cell rfl, h.cell rfl, h.cell rfl⟩

theorem bounds_fit {w : World} {base : Nat} {bs : List Nat} {ba : Option Addr} {bc : Nat} (h : w.ownsRow base 25 1 (.slice ba bs.length bc) bs.length (f64s bs)) (hn : bs.length = 0 → (Value.slice ba bs.length bc) = .slice none 0 0) :
    ∃ spare, bs.length ≤ bc ∧ (bs.length = 0 ∧ effBs bs = defBs ∧ spare = [] ∨ 0 < bs.length ∧ bs.length = (effBs bs).length ∧ ∃ u, ba = some ⟨u, 0, none⟩ ∧ IsBlock w u (f64s (effBs bs) ++ spare)) ∧ (bs.length = 0 → ba = none) ∧ (∀ a, ba = some a → base ≤ a.block ∧ a.block < w.heap.size) := by
  by_cases h0 : bs.length = 0
  · have hv := hn h0
    have hb : bs = [] := List.length_eq_zero_iff.1 h0
    subst hb
    simp only [Value.slice.injEq] at hv
    obtain ⟨rfl, _, rfl⟩ := hv
    exact ⟨[], Nat.le_refl _, .inl ⟨rfl, rfl, rfl⟩, fun _ => rfl, fun a ha => by cases ha⟩
  · obtain ⟨g, cap, spare, hv, hg, hc, hI⟩ := ownsRow_block1 h (by omega)
    simp only [Value.slice.injEq] at hv
    obtain ⟨rfl, _, rfl⟩ := hv
    have he : effBs bs = bs := if_neg (fun e => h0 (by rw [e]; rfl))
    exact ⟨spare, hc, .inr ⟨by omega, by rw [he], g, rfl, by rw [he]; exact hI⟩, fun h => absurd h h0, fun a ha => by cases ha; exact ⟨hg, hI.lt⟩⟩

theorem only_grown {a b c : World} (h : Only (fun _ => False) a b) (hg : b.grownBy c none) : Only (fun _ => False) a c := h.trans ((Only.grown hg).mono (fun _ _ h => by cases h))
theorem effBs_len {bs : List Nat} (h : bs.length ≤ 1048577) : (effBs bs).length ≤ 1048577 := by
  unfold effBs
  split
  · decide
  · exact h

/-- Where a new histogram lies behind HistRun's door: the variable hb holds it, all its blocks are new. -/
structure HrNew (w : World) (ck : Nat) (t0 : Int) (bs : List Nat) (maxZero : Nat) (maxB mr : Int) (hb : Nat) (p : Pl) (wx : World) : Prop where
  hv : IsBlock wx hb [.iface 227 (.pointer (some ⟨p.h, 0, none⟩))]
  hin : HIn wx p (newS bs (-2147483648) 0 maxZero maxB mr t0 0 (.slice none 0 0))
  own : ∀ k, p.own k ∨ k = p.u → ck < k ∧ k ≠ hb
  lab : p.labels = .slice none 0 0
  now : p.now = .func (.func 70) #[.pointer (some ⟨ck, 0, none⟩)] #[]
  clk : IsBlock wx ck [.int .i64 t0, .slice none 0 0]
  only : Only (fun _ => False) w wx
  hbl : ck < hb
  ckl : w.heap.size < ck

/-- Between two rounds of the loop over the steps. -/
structure RRel (w : World) (steps : List SD) (p : Pl) (bs : List Nat) (t0 : Int) (ck hb ob base : Nat) (k : Nat) (vt : Value) (wr : World) : Prop where
  clk : ∃ c, IsBlock wr ck [.int .i64 c, .slice none 0 0]
  hv : IsBlock wr hb [.iface 227 (.pointer (some ⟨p.h, 0, none⟩))]
  st : ∃ (s : HSt) (hs : List HRec), HIn wr p s ∧ Fits s bs t0 (obsOf (steps.take k)) ∧ OIn wr base ob hs ∧ Outs bs t0 hs (outsOf (steps.take k))
  told : wr.ownsRow base 4 1 vt k (List.replicate k (.bool true))
  only : Only (fun _ => False) w wr
  size : base ≤ wr.heap.size
theorem outsFrom_len (l : List SD) : ∀ acc, (outsFrom acc l).length ≤ l.length := by
  induction l with
  | nil => intro acc; exact Nat.le_refl _
  | cons x r ih =>
    intro acc
    simp only [outsFrom]
    split
    · simp only [List.length_cons]; have := ih acc; omega
    · simp only [List.length_cons]; have := ih (acc ++ [x.value]); omega
theorem obsOf_len (l : List SD) : (obsOf l).length ≤ l.length := by
  unfold obsOf; rw [List.length_map]; exact List.length_filter_le _ _
theorem sRow_get (l : List SD) (k j : Nat) (hk : k < l.length) (hj : j < 4) : (sRow l)[4 * k + j]? = (sCl l[k])[j]? := by
  induction l generalizing k with
  | nil => simp at hk
  | cons x r ih =>
    have e : sRow (x :: r) = sCl x ++ sRow r := rfl
    rw [e]
    have hx : (sCl x).length = 4 := rfl
    cases k with
    | zero => rw [List.getElem?_append_left (by omega)]; simp
    | succ k =>
      rw [List.getElem?_append_right (by omega), hx]
      have : 4 * (k + 1) + j - 4 = 4 * k + j := by omega
      rw [this, ih k (by simpa using hk)]
      simp

theorem info4 : (Tryz.prog.info? 4).map (fun i => (i.zero, i.size, i.bytes)) = some (some (.bool false), 1, 1) := by kernel_rfl
theorem ownsRow_type {w : World} {b e s n : Nat} {v : Value} {xs : List Value} (h : w.ownsRow b e s v n xs) {k : Nat} (hk : v.ownBlock = some k) : ∃ cur, w.heap[k]? = some (.cells cur e (0, 0)) := by
  rcases h.2 with ⟨rfl, _⟩ | ⟨g, cap, cur, rfl, _, hg, _⟩
  · cases hk
  · cases hk; exact ⟨cur, hg⟩
theorem ownsRow_keep {w w' : World} {b e s n : Nat} {v : Value} {xs : List Value} (h : w.ownsRow b e s v n xs) {S : Nat → Prop} (ho : Only S w w') {e' : Nat} (hS : ∀ k, S k → ∃ cur fr, w.heap[k]? = some (.cells cur e' fr)) (he : e ≠ e') : w'.ownsRow b e s v n xs :=
  ho.ownsRow h (fun k hk hs => by
    obtain ⟨cur, hc⟩ := ownsRow_type h hk
    obtain ⟨cur', fr, hc'⟩ := hS k hs
    rw [hc] at hc'
    simp only [Option.some.injEq, Obj.cells.injEq] at hc'
    exact he hc'.2.1)
theorem OIn.far {w w' : World} {base ob : Nat} {l : List HRec} (h : OIn w base ob l) {S : Nat → Prop} (ho : Only S w w') (hob : ¬ S ob) {e' : Nat} (hS : ∀ k, S k → ∃ cur fr, w.heap[k]? = some (.cells cur e' fr)) (h92 : 92 ≠ e') (h96 : 96 ≠ e') : OIn w' base ob l where
  var := by
    obtain ⟨v, h1, h2⟩ := h.var
    exact ⟨v, ho.isBlock h1 hob, ownsRow_keep h2 ho hS h92⟩
  bks := fun r hr => ownsRow_keep (h.bks r hr) ho hS h96
  lt := h.lt

theorem hrNew_of {w w3 w4 wx : World} {ck B : Nat} {t0 : Int} {bs : List Nat} {maxZero : Nat} {maxB mr : Int} {hb : Nat} {p : Pl} {ba : Option Addr} {S : Nat → Prop} {n : Nat}
    (hv : IsBlock wx hb [.iface 227 (.pointer (some ⟨p.h, 0, none⟩))]) (hin : HIn w4 p (newS bs (-2147483648) 0 maxZero maxB mr t0 0 (.slice none 0 0))) (hon : Only S w4 wx) (hS : ∀ k, S k → k = hb)
    (h3 : Only (fun _ => False) w w3) (h34 : Only (fun _ => False) w3 w4) (hC3 : IsBlock w3 ck [.int .i64 t0, .slice none 0 0]) (hown : ∀ k, p.own k → n ≤ k) (hu : ba = some ⟨p.u, 0, none⟩ ∨ n ≤ p.u) (hlo : ∀ a, ba = some a → B ≤ a.block ∧ a.block < w3.heap.size)
    (lab : p.labels = .slice none 0 0) (now : p.now = .func (.func 70) #[.pointer (some ⟨ck, 0, none⟩)] #[]) (hck : w.heap.size < ck) (hB : ck < B) (_hB3 : B ≤ w3.heap.size) (hn : w3.heap.size ≤ n) (hhb : ck < hb) (hno : hb < B ∨ w3.heap.size ≤ hb)
    (hnb : hb < n ∨ w4.heap.size ≤ hb) : HrNew w ck t0 bs maxZero maxB mr hb p wx := by
  have hck3 := hC3.lt
  have hown' : ∀ k, p.own k ∨ k = p.u → ck < k ∧ k ≠ hb := fun k hk => by
    have hlt : k < w4.heap.size := by
      rcases hk with hk | rfl
      · rcases hk with rfl | rfl | rfl | rfl | rfl | rfl
        · exact hin.hh.lt
        · exact (hin.hc _).lt
        · exact (hin.hc _).lt
        · exact (hin.hb _).lt
        · exact (hin.hb _).lt
        · exact hin.hx.lt
      · exact hin.hu.lt
    rcases hk with hk | rfl
    · have := hown k hk
      refine ⟨by omega, ?_⟩
      rcases hnb with h | h <;> omega
    · rcases hu with h | h
      · have := hlo _ h
        have h1 : B ≤ p.u := this.1
        have h2 : p.u < w3.heap.size := this.2
        refine ⟨by omega, ?_⟩
        rcases hno with h | h <;> omega
      · refine ⟨by omega, ?_⟩
        rcases hnb with h | h <;> omega
  exact {
    hv := hv
    hin := hin.mono hon (fun k hk hs => (hown' k hk.symm).2 (hS k hs))
    own := hown'
    lab := lab
    now := now
    clk := hon.isBlock (h34.isBlock hC3 id) (fun h => by have := hS _ h; omega)
    only := Only.widen (h3.trans h34) hon (fun j hj => by have := hS j hj; omega)
    hbl := hhb
    ckl := hck }

set_option maxRecDepth 100000 in
set_option maxHeartbeats 1600000 in
theorem histRun_plain (ba : Option Addr) (bn bc : Nat) (fac zt : Nat) (maxB mr : Int) (maxZero : Nat) (mex ttl t0 : Int) (la : Option Addr) (lc : Nat) (steps : List SD) (bst : Nat) (gs : Addr) (gc : Nat) (bs : List Nat) (w : World)
    (hg : w.cell? ⟨2, 0, none⟩ = some (.slice (some gs) 1 gc)) (hgs : w.cell? gs = some (.int .u8 255))
    (hf : (FloatKind.f64.format.order fac 4607182418800017408 == some .lt || FloatKind.f64.format.order fac 4607182418800017408 == some .eq) = true)
    (hb : SrcIs w (.slice ba bn bc) 1 bs.length (f64s bs)) (hlen : bs.length ≤ 1048577) (hasc : Asc (effBs bs)) (hinc : Incr (cutBs (effBs bs)))
    (hst : w.ownsRow bst 86 4 (.slice la steps.length lc) steps.length (sRow steps)) (hsl : steps.length ≤ 4194304) (hkd : ∀ x ∈ steps, x.kind = 0 ∨ x.kind = 2) :
    Calls Tryz.prog 28 #[.agg #[.slice ba bn bc, .float .f64 fac, .float .f64 zt, .int .u32 maxB, .int .i64 mr, .float .f64 maxZero, .int .i64 mex, .int .i64 ttl], .int .i64 t0, .slice la steps.length lc] w fun e w' => ∃ (hs : List HRec) (vo vt : Value), e = .returned (.tuple #[vo, vt, .bool true]) ∧ w'.ownsRow w.heap.size 92 13 vo hs.length (hRow hs) ∧ (∀ h ∈ hs, w'.ownsRow w.heap.size 96 6 h.v h.bks.length (bRow h.bks)) ∧
      w'.ownsRow w.heap.size 4 1 vt steps.length (List.replicate steps.length (.bool true)) ∧ Outs (cutBs (effBs bs)) t0 hs (outsOf steps) ∧ Only (fun _ => False) w w' := by
  obtain ⟨i0, hi, hz0, hz1, hz2⟩ := info_parts info25
  obtain ⟨i4, hi4, hz40, hz41, hz42⟩ := info_parts info4
  have hmf : ∀ (fn : Fn) (first cap : Array Value) (w : World), (Instr.makeFunc fn first cap).run Tryz.prog w = .ok (.func fn first cap) w := fun _ _ _ _ => rfl
  have hS2 : IsBlock ((w.alloc (.cells (sVals (.slice ba bn bc) fac zt maxB mr maxZero mex ttl).toArray 69)).alloc (.cells #[.int .i64 t0, .slice none 0 0] 162)) w.heap.size (sVals (.slice ba bn bc) fac zt maxB mr maxZero mex ttl) := (IsBlock.new w _ 69).alloc _
  have hC2 : IsBlock ((w.alloc (.cells (sVals (.slice ba bn bc) fac zt maxB mr maxZero mex ttl).toArray 69)).alloc (.cells #[.int .i64 t0, .slice none 0 0] 162)) (w.heap.size + 1) [.int .i64 t0, .slice none 0 0] := blk_new _ _ _ _ (World.size_alloc _ _).symm
  have hO2 : Only (fun _ => False) w ((w.alloc (.cells (sVals (.slice ba bn bc) fac zt maxB mr maxZero mex ttl).toArray 69)).alloc (.cells #[.int .i64 t0, .slice none 0 0] 162)) := ((Only.refl _ w).alloc _).alloc _
  have hZ2 : ((w.alloc (.cells (sVals (.slice ba bn bc) fac zt maxB mr maxZero mex ttl).toArray 69)).alloc (.cells #[.int .i64 t0, .slice none 0 0] 162)).heap.size = w.heap.size + 2 := by simp
  have hB2 : SrcIs ((w.alloc (.cells (sVals (.slice ba bn bc) fac zt maxB mr maxZero mex ttl).toArray 69)).alloc (.cells #[.int .i64 t0, .slice none 0 0] 162)) (.slice ba bn bc) 1 bs.length (f64s bs) := hb.mono (fun a v h => cell_past (cell_past h _) _)
  have HST := Lib.hid hst
  have HINC := Lib.hid hinc
  have HKD := Lib.hid hkd
  have HSL := Lib.hid hsl
  have HASC := Lib.hid hasc
  have HLEN := Lib.hid hlen
  have HG := Lib.hid hg
  have HGS := Lib.hid hgs
  have HF := Lib.hid hf
  clear hb hasc hlen hg hgs hf hst hinc hkd hsl
  go_enter Tryz.func28, Tryz.ntmps28
  go_upto_region 2 with (go_at_call 50; refine (newClock_any _ _).mono ?_; rintro e w' ⟨rfl, rfl⟩)
  refine (?_ : ∀ w2, w2 = (w.alloc (.cells (sVals (.slice ba bn bc) fac zt maxB mr maxZero mex ttl).toArray 69)).alloc (.cells #[.int .i64 t0, .slice none 0 0] 162) → Code.wp _ _ _ _ w2) _ rfl
  intro w2 hw2
  rw [← hw2] at hS2 hC2 hO2 hZ2 hB2
  have HC2 := Lib.hid hC2
  have HO2 := Lib.hid hO2
  have HZ2 := Lib.hid hZ2
  have HB2 := Lib.hid hB2
  clear hw2 hC2 hO2 hZ2 hB2
  have hc8 := cells8 hS2
  have hz2lt : w.heap.size < w2.heap.size := by have := HZ2.out; omega
  go_cut [10] from 17 to 36 (fun v10 wx => ∃ (p : Pl) (hb : Nat), v10 = .pointer (some ⟨hb, 0, none⟩) ∧ HrNew w (w.heap.size + 1) t0 (cutBs (effBs bs)) maxZero maxB mr hb p wx)
  case first =>
    go_region_held3 (fun wx => wx.cell? ⟨w.heap.size, 0, none⟩ = some (.slice ba bn bc) ∧ wx.cell? ⟨w.heap.size, 1, none⟩ = some (.float .f64 fac) ∧ wx.cell? ⟨w.heap.size, 2, none⟩ = some (.float .f64 zt) ∧ wx.cell? ⟨w.heap.size, 3, none⟩ = some (.int .u32 maxB) ∧ wx.cell? ⟨w.heap.size, 4, none⟩ = some (.int .i64 mr) ∧ wx.cell? ⟨w.heap.size, 5, none⟩ = some (.float .f64 maxZero) ∧ wx.cell? ⟨w.heap.size, 6, none⟩ = some (.int .i64 mex) ∧ wx.cell? ⟨w.heap.size, 7, none⟩ = some (.int .i64 ttl))
      ((refine cells8 ?_; repeat (first | assumption | apply IsBlock.drew | apply IsBlock.alloc | (refine IsBlock.set_ne ?_ (Nat.ne_of_lt (by assumption)) _))))
      (first
        | (refine step_append_src _ (by rfl) _ _ _ (by rfl) _ 25 i0 _ 1 8 Tryz.underlying22 hi hz0 hz1 hz2 rfl (by omega) (.slice none 0 0) 0 [] (by rfl) (World.ownsRow_nil _ _ _ _) (.slice ba bn bc) bs.length (f64s bs) (by rfl) (SrcIs.mono HB2.out (fun _ _ h => (by first | exact h | exact cell_past h _))) (one_f64s bs) (by have := HLEN.out; unfold maxLen; omega) (by have := HLEN.out; omega) (Nat.le_refl _) ?_
           intro v3 w3 hown3 hgr3 hnil3
           rw [Nat.zero_add, List.nil_append] at hown3
           obtain ⟨ba3, bc3, rfl⟩ := ownsRow_slice hown3
           have hO23 := only_grown (a := w2) (by repeat (first | exact Only.refl _ _ | apply Only.drew | apply Only.alloc)) hgr3
           have hS3 := hO23.isBlock hS2 id
           have hC3 := hO23.isBlock HC2.out id
           have hO3 := HO2.out.trans hO23
           obtain ⟨spare, hcap3, hbs3, hba3, hlo3⟩ := bounds_fit hown3 (fun h => hnil3 h rfl)
           have HBS3 := Lib.hid hbs3
           have HBA3 := Lib.hid hba3
           have HLO3 := Lib.hid hlo3
           have HGR3 := Lib.hid hgr3.size
           have hz3lt : w.heap.size < w3.heap.size := by have := hO23.size; omega
           try have hh3 : IsBlock w3 w2.heap.size [.nilIface] := IsBlock.grown (IsBlock.new w2 [.nilIface] 114).drew hgr3 (fun e => (by cases e))
           clear hown3 hgr3 hnil3 hbs3 hba3 hlo3 hO23)
        | (go_at_call 51
           refine (doorHistogram_ok (w.heap.size + 1) ba3 bs.length bc3 fac zt maxZero maxB mr mex ttl t0 gs gc _ (by first | exact hC3.cell rfl | exact (hC3.alloc _).cell rfl) (by first | exact hO3.cell HG.out id | exact (hO3.alloc _).cell HG.out id) (by first | exact hO3.cell HGS.out id | exact (hO3.alloc _).cell HGS.out id) HF.out (effBs bs) spare (effBs_len HLEN.out) hcap3 (by first | exact HBS3.out | exact HBS3.out.imp id (fun ⟨a, b, u, c, q⟩ => ⟨a, b, u, c, q.alloc _⟩)) HASC.out HBA3.out).mono ?_
           rintro e w4 ⟨p, rfl, hin4, hown4, hu4, ⟨hnow4, hlab4⟩, hbel4⟩
           have hO34 : Only (fun _ => False) w3 w4 := Only.trans (by first | exact Only.refl _ _ | exact (Only.refl _ _).alloc _) (only_of_below hbel4)
           have hS4 := hO34.isBlock hS3 id
           try have hh4 := hO34.isBlock hh3 id
           try have hh4 : IsBlock w4 w3.heap.size [.nilIface] := (only_of_below hbel4).isBlock (IsBlock.new w3 [.nilIface] 114) id
           try have hc4 := hh4.cell (i := 0) rfl
           try have hf4 := hh4.free 0
           have HIN4 := Lib.hid hin4
           have HOW4 := Lib.hid hown4
           have HU4 := Lib.hid hu4
           have HNOW := Lib.hid hnow4
           have HLAB := Lib.hid hlab4
           clear hin4 hown4 hu4 hnow4 hlab4 hbel4))
    · go_wp2_with fail
      go_meet
      exact ⟨p, w4.heap.size, rfl, hrNew_of (w3 := w3) (w4 := w4) (B := w2.heap.size) (blk_new _ _ _ _ rfl) HIN4.out ((Only.refl (fun _ => False) w4).alloc _) (fun _ h => h.elim) hO3 hO34 hC3 HOW4.out HU4.out HLO3.out HLAB.out HNOW.out (by omega) (by have := HZ2.out; omega) HGR3.out (Nat.le_refl _) (by have := hO34.size; have := hC3.lt; omega) (.inr hO34.size) (.inr (Nat.le_refl _))⟩
    · go_wp2_with fail
      go_meet
      exact ⟨p, w3.heap.size, rfl, hrNew_of (w3 := w3) (w4 := w4) (B := w2.heap.size) (hh4.set 0 _) HIN4.out ((Only.refl (fun k => k = w3.heap.size) w4).setCell (p := ⟨w3.heap.size, 0, none⟩) (.inl rfl) _) (fun _ h => h) hO3 hO34 hC3 HOW4.out HU4.out HLO3.out HLAB.out HNOW.out (by omega) (by have := HZ2.out; omega) HGR3.out (by rw [World.size_alloc]; omega) hC3.lt (.inr (Nat.le_refl _)) (.inl (by rw [World.size_alloc]; omega))⟩
    · go_wp2_with fail
      go_meet
      have hsz : (w2.alloc (Obj.cells #[Value.nilIface] 114)).drew.heap.size = w2.heap.size + 1 := World.size_alloc _ _
      exact ⟨p, w2.heap.size, rfl, hrNew_of (w3 := w3) (w4 := w4) (B := w2.heap.size + 1) (hh4.set 0 _) HIN4.out ((Only.refl (fun k => k = w2.heap.size) w4).setCell (p := ⟨w2.heap.size, 0, none⟩) (.inl rfl) _) (fun _ h => h) hO3 hO34 hC3 HOW4.out HU4.out (fun a ha => by have := HLO3.out a ha; rw [hsz] at this; exact this) HLAB.out HNOW.out (by omega) (by have := HZ2.out; omega) (by have := HGR3.out; rw [hsz] at this; exact this) (Nat.le_refl _) (by have := HZ2.out; omega) (.inl (Nat.lt_succ_self _)) (.inl (by have := HGR3.out; rw [hsz] at this; omega))⟩
  obtain ⟨p, hb, rfl, hN⟩ := hcut
  have HN := Lib.hid hN
  clear hN hc8 hS2 hz2lt HC2 HO2 HZ2 HB2 HG HGS HF
  have cv := HN.out.hv.cell (i := 0) rfl
  have hlt : ∀ k, p.own k ∨ k = p.u → k < wc.heap.size := fun k hk => by
    rcases hk with hk | rfl
    · rcases hk with rfl | rfl | rfl | rfl | rfl | rfl
      · exact HN.out.hin.hh.lt
      · exact (HN.out.hin.hc _).lt
      · exact (HN.out.hin.hc _).lt
      · exact (HN.out.hin.hb _).lt
      · exact (HN.out.hin.hb _).lt
      · exact HN.out.hin.hx.lt
    · exact HN.out.hin.hu.lt
  have HLT := Lib.hid hlt
  have HR0 : Hid (RRel w steps p (cutBs (effBs bs)) t0 (w.heap.size + 1) hb wc.heap.size (wc.heap.size + 1) 0 (.slice none 0 0) (wc.alloc (.cells #[.slice none 0 0] 66))) := Lib.hid {
    clk := ⟨t0, HN.out.clk.alloc _⟩
    hv := HN.out.hv.alloc _
    st := ⟨_, [], HN.out.hin.kept ((Only.refl _ wc).alloc _), Fits.new _ _ _ _ _ _ _ _, ⟨⟨.slice none 0 0, IsBlock.new wc [.slice none 0 0] 66, World.ownsRow_nil _ _ _ _⟩, fun h hh => by simp at hh, Nat.lt_succ_self _⟩, Outs.nil _ _⟩
    told := World.ownsRow_nil _ _ _ _
    only := HN.out.only.alloc _
    size := by rw [World.size_alloc]; omega }
  have hsl' : (steps.length : Int) ≤ 4194304 := by have := HSL.out; omega
  clear hlt
  go_wp2_with fail
  go_loopw [12, 41] (fun vt i wr => ∃ (k : Nat), k ≤ steps.length ∧ i = .int .i64 k ∧ RRel w steps p (cutBs (effBs bs)) t0 (w.heap.size + 1) hb wc.heap.size (wc.heap.size + 1) k vt wr) (fun _ i _ => steps.length - (intOf i).toNat)
  case atStart => exact ⟨0, Nat.zero_le _, rfl, HR0.out⟩
  case round =>
    obtain ⟨k, hk, rfl, hR⟩ := hrel
    have HR := Lib.hid hR
    clear hR
    by_cases hkn : k < steps.length
    · have hk0 : (0 : Int) ≤ (k : Int) := by omega
      have hk1 : (k : Int) < (steps.length : Int) := by omega
      have hla : ∃ g, la = some ⟨g, 0, none⟩ := by
        rcases HST.out.2 with ⟨_, h0⟩ | ⟨g, cap, cur, hv, _⟩
        · omega
        · simp only [Value.slice.injEq] at hv; exact ⟨g, hv.1⟩
      obtain ⟨g, rfl⟩ := hla
      have hcells : ∀ j, j < 4 → wr.cell? ⟨g, k * 4 + j, none⟩ = (sCl steps[k])[j]? := fun j hj => by
        have hv := sRow_get steps k j hkn hj
        have hl : j < (sCl steps[k]).length := hj
        rw [List.getElem?_eq_getElem hl] at hv ⊢
        have hc := HST.out.cells (g := g) rfl _ _ hv
        have e : (⟨g, 0, none⟩ : Addr).add (4 * k + j) = ⟨g, k * 4 + j, none⟩ := by
          rw [show 4 * k + j = k * 4 + j by omega]
          unfold Addr.add; split <;> simp_all
        rw [e] at hc
        exact HR.out.only.cell hc id
      obtain ⟨x, hx⟩ : ∃ x, x = steps[k] := ⟨_, rfl⟩
      rw [← hx] at hcells
      have k0 : wr.cell? ⟨g, k * 4, none⟩ = some (.int .i64 x.kind) := hcells 0 (by omega)
      have k1 : wr.cell? ⟨g, k * 4 + 1, none⟩ = some (.float .f64 x.value) := hcells 1 (by omega)
      have k2 : wr.cell? ⟨g, k * 4 + 2, none⟩ = some (.slice x.la x.ln x.lc) := hcells 2 (by omega)
      have k3 : wr.cell? ⟨g, k * 4 + 3, none⟩ = some (.int .i64 x.at_) := hcells 3 (by omega)
      have HX := Lib.hid hx
      clear hcells hx
      go_wp2_with fail
      refine (?_ : ∀ w5, w5 = wr.alloc (.cells (sCl x).toArray 86) → Calls Tryz.prog 52 _ w5 _) _ rfl
      intro w5 hw5
      have HX5 : Hid (IsBlock w5 wr.heap.size (sCl x)) := Lib.hid (by rw [hw5]; exact IsBlock.new wr (sCl x) 86)
      have HO5 : Hid (Only (fun _ => False) wr w5) := Lib.hid (by rw [hw5]; exact (Only.refl _ wr).alloc _)
      have HZ5 : Hid (w5.heap.size = wr.heap.size + 1) := Lib.hid (by rw [hw5]; exact World.size_alloc _ _)
      obtain ⟨c, hclk⟩ := HR.out.clk
      have hclk5 := HO5.out.isBlock hclk id
      clear hw5 k0 k1 k2 k3
      refine (clockTo_plain (w.heap.size + 1) c x.at_ w5 hclk5).mono ?_
      rintro e w6 ⟨rfl, hw6⟩
      have HO56 : Hid (Only (fun j => j = w.heap.size + 1) w5 w6) := Lib.hid (by rw [hw6]; exact (Only.refl (fun j => j = w.heap.size + 1) w5).setCell (p := ⟨w.heap.size + 1, 0, none⟩) (.inl rfl) _)
      have HK6 : Hid (IsBlock w6 (w.heap.size + 1) [.int .i64 (max c x.at_), .slice none 0 0]) := Lib.hid (by rw [hw6]; exact hclk5.set 0 _)
      clear hw6 hclk5 hclk
      obtain ⟨s, hs, h1, h2, h3, h4⟩ := HR.out.st
      have hckw : w.heap.size + 1 < wc.heap.size := HN.out.clk.lt
      have hbw : hb < wc.heap.size := HN.out.hv.lt
      have hrs := HR.out.size
      have H1 := Lib.hid ((h1.mono HO5.out (fun _ _ h => h)).mono HO56.out (fun j hj e => by have := (HN.out.own j hj.symm).1; omega))
      have HX6 := HO56.out.isBlock HX5.out (fun e => by omega)
      have HV6 := HO56.out.isBlock (HO5.out.isBlock HR.out.hv id) (fun e => by have := HN.out.hbl; omega)
      have H3 := (h3.mono HO5.out (fun _ h => h.elim)).mono HO56.out (fun j e => by omega)
      have HT6 : Hid (w6.ownsRow (wc.heap.size + 1) 4 1 u12 k (List.replicate k (.bool true))) := Lib.hid (HO56.out.ownsRow (HO5.out.ownsRow HR.out.told (fun _ _ => id)) (fun j hj e => by have := (HR.out.told.lt j hj).1; omega))
      have hz6 : wc.heap.size + 1 ≤ w6.heap.size := by have := HO56.out.size; have := HZ5.out; omega
      have HTS := Lib.hid (tryStep wr.heap.size hb wc.heap.size (wc.heap.size + 1) p s (cutBs (effBs bs)) t0 (obsOf (steps.take k)) hs (outsOf (steps.take k)) x w6 H1.out h2 H3 h4 HX6 HV6 (fun j hj => by have := HLT.out j hj; omega) HN.out.lab hz6 (HKD.out x (by rw [HX.out]; exact List.getElem_mem hkn)) HINC.out
        (by have := effBs_len HLEN.out; unfold cutBs; split; (rw [List.length_dropLast]; omega); exact this)
        (by have := obsOf_len (steps.take k); rw [List.length_take] at this; have := HSL.out; omega) (by rw [h4.len]; have := outsFrom_len (steps.take k) []; unfold outsOf; rw [List.length_take] at this; have := HSL.out; omega))
      clear h1 h2 h3 h4 HX6 HV6 H3 hz6
      go_wp2_with fail
      refine HTS.out.mono ?_
      rintro e w7 ⟨rfl, s', hs', q1, q2, q3, q4, q5⟩
      have Q1 := Lib.hid q1
      have Q2 := Lib.hid q2
      have Q3 := Lib.hid q3
      have Q4 := Lib.hid q4
      have Q5 := Lib.hid q5
      have HT7 : w7.ownsRow (wc.heap.size + 1) 4 1 u12 k (List.replicate k (.bool true)) := q5.ownsRow HT6.out (fun j hj hs => by
        have := (HT6.out.lt j hj).1
        rcases hs with h | h | h
        · have := HLT.out j (.inl h); omega
        · omega
        · exact not92 HT6.out (by decide) hj h.2)
      clear q1 q2 q3 q4 q5 HTS
      obtain ⟨ta, tc, ht⟩ := ownsRow_slice HT7
      rw [ht] at HT7
      have HT := Lib.hid ht
      rw [ht]
      clear ht
      go_wp2_with (at_builtin; go_must (refine wpList_append_own _ rfl _ _ 55 rfl (wc.heap.size + 1) 4 i4 (.bool false) 1 1 Tryz.underlying55 hi4 hz40 hz41 hz42 rfl (by decide) _ _ _ rfl (HT7.alloc _) ⟨w7.heap.size, 0, none⟩ 1 1 [.bool true] rfl rfl (cells_of (IsBlock.new w7 [.bool true] 4)) (one_one _ rfl) ?c3 ?c4 ?c5 ?_))
      case c3 => unfold maxLen; omega
      case c4 => omega
      case c5 => have := Q5.out.size; have := HT6.out; have h6 : wc.heap.size + 1 ≤ w6.heap.size := by (have := HO56.out.size; have := HZ5.out; omega)
                 rw [World.size_alloc]; omega
      intro v8 w8 hown8 hgr8 _
      have hrow : ∀ j, (Value.slice ta k tc).ownBlock = some j → wc.heap.size + 1 ≤ j := fun j hj => (HT7.lt j hj).1
      have hon : Only (fun j => (Value.slice ta k tc).ownBlock = some j) w7 w8 := ((Only.refl _ w7).alloc _).trans (Only.grown hgr8)
      have hS6 : ∀ j, j < wc.heap.size → (∀ k, p.own k → j ≠ k) → ¬ (p.own j ∨ j = wc.heap.size ∨ wc.heap.size + 1 ≤ j ∧ Is92 w6 j) := fun j hj hno h => by
        rcases h with h | h | h
        · exact hno j h rfl
        · omega
        · omega
      have hckN : ∀ k, p.own k → w.heap.size + 1 ≠ k := fun k hk e => by have := (HN.out.own k (.inl hk)).1; omega
      have hhbN : ∀ k, p.own k → hb ≠ k := fun k hk e => (HN.out.own k (.inl hk)).2 e.symm
      have hV6 := HO56.out.isBlock (HO5.out.isBlock HR.out.hv id) (fun e => by have := HN.out.hbl; omega)
      have HNX : Hid (RRel w steps p (cutBs (effBs bs)) t0 (w.heap.size + 1) hb wc.heap.size (wc.heap.size + 1) (k + 1) v8 w8) := Lib.hid {
        clk := ⟨_, hon.isBlock (Q5.out.isBlock HK6.out (hS6 _ hckw hckN)) (fun e => by have := hrow _ e; omega)⟩
        hv := hon.isBlock (Q5.out.isBlock hV6 (hS6 _ hbw hhbN)) (fun e => by have := hrow _ e; omega)
        st := by
          have e1 : steps.take (k + 1) = steps.take k ++ [x] := by rw [List.take_succ_eq_append_getElem hkn, HX.out]
          refine ⟨s', hs', Q1.out.mono hon (fun j hj e => by have := HLT.out j hj.symm; have := hrow j e; omega), ?_, Q3.out.far hon (fun e => by have := hrow _ e; omega) (e' := 4) (fun j hj => by obtain ⟨cur, hc⟩ := ownsRow_type HT7 hj; exact ⟨cur, _, hc⟩) (by decide) (by decide), ?_⟩
          · rw [e1, obsOf_snoc]; exact Q2.out
          · rw [e1, outsOf_snoc]; exact Q4.out
        told := by rw [List.replicate_succ']; exact hown8
        only := by
          have h1 : Only (fun _ => False) w w5 := HR.out.only.trans HO5.out
          have h2 := Only.widen h1 HO56.out (fun j e => by omega)
          have h3 := Only.widen h2 Q5.out (fun j hj => by
            rcases hj with h | h | h
            · have := (HN.out.own j (.inl h)).1; omega
            · omega
            · omega)
          exact Only.widen h3 hon (fun j hj => by have := hrow j hj; omega)
        size := by
          have h6 : wc.heap.size + 1 ≤ w6.heap.size := by (have := HO56.out.size; have := HZ5.out; omega)
          have := Q5.out.size; have := hon.size; omega }
      clear hown8 hgr8 hrow hon hS6 hckN hhbN hV6 HT7
      go_wp2_with fail
      go_roundw
      case rel => exact ⟨k + 1, hkn, by go_num, HNX.out⟩
      case measure => simp [intOf]; omega
    · have hke : k = steps.length := by omega
      subst hke
      have hk1 : ¬ (steps.length : Int) < (steps.length : Int) := by omega
      clear hkn hk
      obtain ⟨s, hs, h1, h2, h3, h4⟩ := HR.out.st
      obtain ⟨vo, hv1, hv2⟩ := h3.var
      obtain ⟨oa, oc, hvo⟩ := ownsRow_slice hv2
      rw [hvo] at hv1 hv2
      have ov : wr.cell? ⟨wc.heap.size, 0, none⟩ = some (.slice oa hs.length oc) := hv1.cell rfl
      obtain ⟨ta, tc, ht⟩ := ownsRow_slice HR.out.told
      have htold := HR.out.told
      rw [ht] at htold
      have HFN : Hid (∃ (hs' : List HRec) (vo vt : Value), Ending.returned (.tuple #[.slice oa hs.length oc, .slice ta steps.length tc, .bool true]) = Ending.returned (.tuple #[vo, vt, .bool true]) ∧ wr.ownsRow w.heap.size 92 13 vo hs'.length (hRow hs') ∧ (∀ h ∈ hs', wr.ownsRow w.heap.size 96 6 h.v h.bks.length (bRow h.bks)) ∧
          wr.ownsRow w.heap.size 4 1 vt steps.length (List.replicate steps.length (.bool true)) ∧ Outs (cutBs (effBs bs)) t0 hs' (outsOf steps) ∧ Only (fun _ => False) w wr) := Lib.hid
        ⟨hs, _, _, rfl, ownsRow_lower hv2 (by have := HN.out.only.size; omega), fun h hh => ownsRow_lower (h3.bks h hh) (by have := HN.out.only.size; omega), ownsRow_lower htold (by have := HN.out.only.size; omega), by rw [List.take_of_length_le (Nat.le_refl _)] at h4; exact h4, HR.out.only⟩
      clear h1 h2 h3 h4 hv1 hv2 hvo htold
      go_wp2_with fail
      go_ret3
      exact HFN.out
end Go.Proofs.YtebjclmbacmilaaGreatDoor
