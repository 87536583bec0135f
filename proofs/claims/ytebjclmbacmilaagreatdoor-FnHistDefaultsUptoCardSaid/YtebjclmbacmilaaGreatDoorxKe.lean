/- The counts of one half added to those of the other: what a walk over the cold counters leaves. Conditions: as stated. addAndReset and what Write defers: the cold counters added to the hot ones. Conditions: as stated. -/
import Derived.Test.YtebjclmbacmilaaGreatDoorxKb
import Derived.Deep.RegionLaw
import Derived.BigQuiet
import Derived.Test.YtebjclmbacmilaaGreatDoorxKc
namespace Go.Proofs.YtebjclmbacmilaaGreatDoor
open Go.RowKit Go.Maps

/-- A look at a key that is there: its counter, and what a later store into it does. -/
theorem NAt.lookAt {w : World} {S : Nat → Prop} {h : Option Nat} {n : Nat} {N : Int → Option Int} (H : NAt w S h n N) (key : Int) (hk : Wf key) {c : Int} (hc : N key = some c) :
    ∃ g, (Instr.lookup 249 (.map h) (.int .i64 key) true).run Tryz.prog w = .ok (.tuple #[.pointer (some ⟨g, 0, none⟩), .bool true]) w ∧ S g ∧ IsBlock w g [.int .i64 c] ∧
      ∀ (w' : World) (T : Nat → Prop), Only T w w' → (∀ k, S k → ¬ T k) → ∀ c', NAt (w'.setCell ⟨g, 0, none⟩ (.int .i64 c')) S h n (updN N key c') := by
  rcases H with ⟨rfl, hN⟩ | ⟨b, rfl, H⟩
  · rw [hN key hk] at hc; cases hc
  · have H0 := H
    obtain ⟨v, hl, hv⟩ := (show NAt w S (some b) n N from .inr ⟨b, rfl, H⟩).look key hk
    obtain ⟨hm, D, G, hown, hhas, hat, hinj⟩ := H
    obtain ⟨v2, ps, hl2, hv2⟩ := hown.look_ok (t := 249) keyed3 Tryz.underlying249 (zero136 w) (zd := .nil) (zp := []) rfl (key3 hk)
    obtain ⟨h1, h2, h3⟩ := hat key c hk hc
    rw [h1] at hv2
    rcases ptrR_inv hv2 with ⟨_, hd⟩ | ⟨g, rfl, hd⟩
    · cases hd
    · have hg : G key = g := by
        have h5 : ((G key : Nat) : Int) = (g : Int) := by simpa using hd
        omega
      rw [hg] at h2 h3
      rw [hhas key hk, hc] at hl2
      refine ⟨g, hl2, h2, h3, fun w' T ho hT c' => ?_⟩
      have hown' : w'.ownsMap Tryz.prog 3 ptrR b n D := by
        have hlt := hown.lt
        obtain ⟨es, clock, hb, r⟩ := hown
        exact ⟨es, clock, by rw [ho.block b hlt (hT b hm)]; exact hb, r⟩
      have hat' : ∀ k x, Wf k → N k = some x → D.atKey (.int .i64 k) .nil = .lit (.int .i64 (G k)) ∧ S (G k) ∧ IsBlock w' (G k) [.int .i64 x] := fun k x hk' hx => by
        obtain ⟨q1, q2, q3⟩ := hat k x hk' hx
        exact ⟨q1, q2, ho.isBlock q3 (hT _ q2)⟩
      have h3' : IsBlock w' g [.int .i64 c] := ho.isBlock h3 (hT _ h2)
      refine .inr ⟨b, rfl, hm, D, G, hown'.setCell (Ne.symm (map_ne_block hown' h3')) _, fun k hk' => ?_, fun k x hk' hx => ?_, fun k k' x x' hk1 hk2 hx hx' => ?_⟩
      · rw [hhas k hk']
        unfold updN
        split
        · rename_i e; subst e; rw [hc]; rfl
        · rfl
      · unfold updN at hx
        split at hx
        · rename_i e
          subst e
          cases hx
          rw [hg]
          exact ⟨by rw [h1, hg], h2, h3'.set 0 _⟩
        · rename_i e
          obtain ⟨q1, q2, q3⟩ := hat' k x hk' hx
          exact ⟨q1, q2, q3.set_ne (fun e' => e (hinj k key x c hk' hk hx hc (by rw [hg]; exact e'))) _⟩
      · have h' : ∀ k x, updN N key c' k = some x → ∃ y, N k = some y := fun k x hx => by
          unfold updN at hx
          split at hx
          · rename_i e; subst e; exact ⟨c, hc⟩
          · exact ⟨x, hx⟩
        obtain ⟨y, hy⟩ := h' k x hx
        obtain ⟨y', hy'⟩ := h' k' x' hx'
        exact hinj k k' y y' hk1 hk2 hy hy'

/-- What adding to the counters of native buckets leaves as it was. -/
structure SameC (s s' : CSt) : Prop where
  sum : s'.sum = s.sum
  cnt : s'.cnt = s.cnt
  zero : s'.zero = s.zero
  zt : s'.zt = s.zt
  sch : s'.sch = s.sch
  bk : s'.bk = s.bk
theorem SameC.refl (s : CSt) : SameC s s := ⟨rfl, rfl, rfl, rfl, rfl, rfl⟩
theorem SameC.trans {a b c : CSt} (h : SameC a b) (k : SameC b c) : SameC a c := ⟨k.sum.trans h.sum, k.cnt.trans h.cnt, k.zero.trans h.zero, k.zt.trans h.zt, k.sch.trans h.sch, k.bk.trans h.bk⟩
def offOf (i : Bool) : Nat := if i then 8 else 7
def CSt.side (s : CSt) (i : Bool) : Option Nat := if i then s.neg else s.pos
/-- addToBucket of one of both sides. -/
theorem addSide (i : Bool) (c b : Nat) (s : CSt) (Z : Nat → Prop) (m m' : Nat) (key inc : Int) (w : World) (hk : Wf key) (Hc : IsBlock w c (s.cells b)) (H : NSt w Z s.pos s.neg m) (hZ : ∀ k, Z k → k ≠ c ∧ k < w.heap.size) (hi : 0 ≤ inc) (hmm : (m : Int) + inc ≤ m') (hm' : (m' : Int) ≤ 4611686018427387904) (h1 : m + 1 ≤ m') :
    Calls Tryz.prog 271 #[.pointer (some ⟨c, offOf i, none⟩), .int .i64 key, .int .i64 inc] w fun e w' => ∃ (cr : Bool) (s' : CSt), e = .returned (.bool cr) ∧ SameC s s' ∧ s'.nb = s.nb ∧ IsBlock w' c (s'.cells b) ∧ NSt w' (AddTo1 w w' Z) s'.pos s'.neg m' ∧ Only (fun k => Z k ∨ k = c) w w' := by
  cases i
  · refine (addPos c b s Z m m' key inc w hk Hc H hZ hi hmm hm' h1).mono ?_
    rintro e w' ⟨cr, h', rfl, q1, q2, q3⟩
    exact ⟨cr, { s with pos := h' }, rfl, ⟨rfl, rfl, rfl, rfl, rfl, rfl⟩, rfl, q1, q2, q3⟩
  · refine (addNeg c b s Z m m' key inc w hk Hc H hZ hi hmm hm' h1).mono ?_
    rintro e w' ⟨cr, h', rfl, q1, q2, q3⟩
    exact ⟨cr, { s with neg := h' }, rfl, ⟨rfl, rfl, rfl, rfl, rfl, rfl⟩, rfl, q1, q2, q3⟩
end Go.Proofs.YtebjclmbacmilaaGreatDoor

namespace Go.Proofs.YtebjclmbacmilaaGreatDoor
open Go.RowKit Go.Maps

/-- What the literal of addAndReset leaves. -/
def AddPost (c b g : Nat) (s : CSt) (Z : Nat → Prop) (m' : Nat) (w w' : World) : Prop := ∃ (s' : CSt) (w1 : World), SameC s s' ∧ IsBlock w' c (s'.cells b) ∧ NSt w' (AddTo1 w w' Z) s'.pos s'.neg m' ∧ Only (fun k => Z k ∨ k = c) w w1 ∧ w' = w1.setCell ⟨g, 0, none⟩ (.int .i64 0)
theorem addPost_of {c b g : Nat} {s s' : CSt} {Z : Nat → Prop} {m' : Nat} {w wx w1 : World} (hs : SameC s s') (hb : IsBlock w1 c (s'.cells b)) (hn : NSt wx (AddTo1 w wx Z) s'.pos s'.neg m') (ho : Only (fun k => Z k ∨ k = c) w wx) (h1 : Only (fun k => k = c) wx w1) (hgc : g ≠ c) (hgZ : ¬ Z g) (hgl : g < w.heap.size) (hZ : ∀ k, Z k → k ≠ c ∧ k < w.heap.size) (hcl : c < w.heap.size) :
    AddPost c b g s Z m' w (w1.setCell ⟨g, 0, none⟩ (.int .i64 0)) := by
  have hsz := h1.size
  have hz : (w1.setCell ⟨g, 0, none⟩ (.int .i64 0)).heap.size = w1.heap.size := World.size_setCell _ _ _
  refine ⟨s', w1, hs, hb.set_ne (a := ⟨g, 0, none⟩) (Ne.symm hgc) _, ((hn.kept h1 (fun k hk e => ?_)).kept ((Only.refl (fun j => j = g) w1).setCell (p := ⟨g, 0, none⟩) (.inl rfl) _) (fun k hk e => ?_)).wide (fun k hk => ?_), ho.trans (h1.mono (fun k _ e => .inr e)), rfl⟩
  · rcases hk with hk | hk
    · exact (hZ k hk).1 e
    · omega
  · rcases hk with hk | hk
    · exact hgZ (e ▸ hk)
    · omega
  · rcases hk with hk | hk
    · exact .inl hk
    · exact .inr ⟨hk.1, by omega⟩

set_option maxRecDepth 100000 in
/-- The literal of addAndReset. -/
theorem addReset_any (i : Bool) (c b g bx1 bx2 : Nat) (s : CSt) (Z : Nat → Prop) (m m' : Nat) (k x : Int) (w : World) (hk : Wf k) (Hc : IsBlock w c (s.cells b)) (H : NSt w Z s.pos s.neg m) (hZ : ∀ k, Z k → k ≠ c ∧ k < w.heap.size) (h1 : IsBlock w bx1 [.pointer (some ⟨c, offOf i, none⟩)]) (h2 : IsBlock w bx2 [.pointer (some ⟨c, 5, none⟩)])
    (hg : IsBlock w g [.int .i64 x]) (hgZ : ¬ (Z g ∨ g = c)) (_hb1 : ¬ (Z bx1 ∨ bx1 = c)) (hb2 : ¬ (Z bx2 ∨ bx2 = c)) (hx : 0 ≤ x) (hmm : (m : Int) + x ≤ m') (hm' : (m' : Int) ≤ 4611686018427387904) (hm1 : m + 1 ≤ m') :
    Calls Tryz.prog 270 #[.int .i64 k, .pointer (some ⟨g, 0, none⟩), .pointer (some ⟨bx1, 0, none⟩), .pointer (some ⟨bx2, 0, none⟩)] w fun e w' => e = .returned (.bool true) ∧ AddPost c b g s Z m' w w' := by
  have c1 := h1.cell (i := 0) rfl
  have cg := hg.cell (i := 0) rfl
  have HA := Lib.hid (fun (wx : World) (hwx : Only (fun _ => False) w wx) => addSide i c b s Z m m' k x wx hk (hwx.isBlock Hc id) (H.kept hwx (fun _ _ => id)) (fun j hj => ⟨(hZ j hj).1, Nat.lt_of_lt_of_le (hZ j hj).2 hwx.size⟩) hx hmm hm' hm1)
  have HH := Lib.hid (And.intro Hc (And.intro hZ (And.intro h2 (And.intro hg (And.intro hgZ hb2)))))
  clear Hc H hZ h1 h2 hg hgZ hb2 hk hmm hm' hm1
  go_enter Tryz.func270, Tryz.ntmps270
  go_wp2_with fail
  go_region_law
    (go_simp; go_at_call 271; refine (HA.out _ (by repeat (first | exact Only.refl _ _ | apply Only.drew | apply Only.alloc))).mono ?_; rintro e wx ⟨cr, s', rfl, r1, r2, r3, r4, r5⟩)
  all_goals
    obtain ⟨hHc, hZ, h2, hg, hgZ, hb2⟩ := HH.out
    have ho : Only (fun k => Z k ∨ k = c) w wx := (Only.mono (S := fun _ => False) (by repeat (first | exact Only.refl _ _ | apply Only.drew | apply Only.alloc)) (fun _ _ e => e.elim)).trans r5
    have hsz := ho.size
    have c5 : wx.cell? ⟨c, 5, none⟩ = some (.int .u32 s'.nb) := r3.cell rfl
    have f5 := r3.free 5
    have hg' := ho.isBlock hg hgZ
    have cg' := hg'.cell (i := 0) rfl
    have fg' := hg'.free 0
    have cb := (ho.isBlock h2 hb2).cell (i := 0) rfl
    have hgc : g ≠ c := fun e => hgZ (.inr e)
    have HN1 : Hid (AddPost c b g s Z m' w (wx.setCell ⟨g, 0, none⟩ (.int .i64 0))) := Lib.hid (addPost_of r1 r3 (r4.wide (fun k hk => hk)) ho (Only.refl _ _) hgc (fun e => hgZ (.inl e)) hg.lt hZ hHc.lt)
    have HN2 : ∀ nb, Hid (AddPost c b g s Z m' w ((wx.setCell ⟨c, 5, none⟩ (.int .u32 nb)).setCell ⟨g, 0, none⟩ (.int .i64 0))) := fun nb => Lib.hid (addPost_of (s' := { s' with nb := nb }) ⟨r1.sum, r1.cnt, r1.zero, r1.zt, r1.sch, r1.bk⟩ (r3.set 5 (.int .u32 nb)) (r4.wide (fun k hk => hk)) ho ((Only.refl (fun k => k = c) wx).setCell (p := ⟨c, 5, none⟩) (.inl rfl) _) hgc (fun e => hgZ (.inl e)) hg.lt hZ hHc.lt)
    have HN2 := Lib.hid HN2
    clear hHc hZ h2 hg hgZ hb2 ho hsz hg' r1 r2 r3 r4 r5 c1 cg
    cases cr with
    | false =>
      go_wp2_with fail
      go_ret
      exact ⟨rfl, HN1.out⟩
    | true =>
      go_wp2_with fail
      go_ret
      exact ⟨rfl, (HN2.out _).out⟩

/-- addAndReset. -/
theorem addAndResetF (a b : Option Addr) (w : World) : Calls Tryz.prog 256 #[.pointer a, .pointer b] w fun e w' => e = .returned (.func (.func 270) #[] #[.pointer (some ⟨w.heap.size, 0, none⟩), .pointer (some ⟨w.heap.size + 1, 0, none⟩)]) ∧ w' = (w.alloc (.cells #[.pointer a] 397)).alloc (.cells #[.pointer b] 210) := by
  have hmf : ∀ (fn : Fn) (first cap : Array Value) (w : World), (Instr.makeFunc fn first cap).run Tryz.prog w = .ok (.func fn first cap) w := fun _ _ _ _ => rfl
  go_enter Tryz.func256, Tryz.ntmps256
  go_wp2_with fail
  go_ret
  exact ⟨rfl, rfl⟩
/-- What the walk over the cold counters of one side holds so far. -/
structure AddR (i : Bool) (ch b bx1 bx2 : Nat) (s : CSt) (Z Sc : Nat → Prop) (hc : Option Nat) (n mh m : Nat) (N : Int → Option Int) (M j : Nat) (w' : World) : Prop where
  ex : ∃ (s' : CSt) (Z' : Nat → Prop) (N' : Int → Option Int), SameC s s' ∧ IsBlock w' ch (s'.cells b) ∧ NSt w' Z' s'.pos s'.neg (mh + j * (m + 1)) ∧ (∀ k, Z' k → Z k ∨ M ≤ k ∧ k < w'.heap.size) ∧
    NAt w' Sc hc n N' ∧ (∀ k, (N' k).isSome = (N k).isSome) ∧ (∀ k x, N' k = some x → 0 ≤ x ∧ x ≤ m)
  b1 : IsBlock w' bx1 [.pointer (some ⟨ch, offOf i, none⟩)]
  b2 : IsBlock w' bx2 [.pointer (some ⟨ch, 5, none⟩)]
  le : M ≤ w'.heap.size
theorem prod_le (j m mh : Nat) (hj : j ≤ 268435456) (hm : m < 2147483648) (hh : mh ≤ 2305843009213693952) : mh + (j + 1) * (m + 1) ≤ 4611686018427387904 := by
  have h := Nat.mul_le_mul (show j + 1 ≤ 268435457 by omega) (show m + 1 ≤ 2147483648 by omega)
  omega
theorem prod_succ (j m mh : Nat) : mh + (j + 1) * (m + 1) = mh + j * (m + 1) + (m + 1) := by rw [Nat.succ_mul]; omega

/-- The cold counters of one side added to the hot ones. -/
theorem rangeAdd (i : Bool) (cc off ch b bx1 bx2 n mh m : Nat) (s : CSt) (Z Sc : Nat → Prop) (hc : Option Nat) (N : Int → Option Int) (ks : List Int) (w : World) (hcm : w.cell? ⟨cc, off, none⟩ = some (.map hc)) (Hh : IsBlock w ch (s.cells b)) (HN : NSt w Z s.pos s.neg mh) (HC : NAt w Sc hc n N)
    (hNm : ∀ k x, N k = some x → 0 ≤ x ∧ x ≤ m) (hn : n ≤ 268435456) (hm : m < 2147483648) (hmh : mh ≤ 2305843009213693952) (hks : KeysOf N ks) (hkl : ks.length ≤ n) (hZ : ∀ k, Z k → k ≠ ch ∧ k ≠ cc ∧ k < w.heap.size ∧ ¬ Sc k ∧ k ≠ bx1 ∧ k ≠ bx2) (hS : ∀ k, Sc k → k ≠ ch ∧ k ≠ cc ∧ k < w.heap.size ∧ k ≠ bx1 ∧ k ≠ bx2) (hcc : cc ≠ ch)
    (h1 : IsBlock w bx1 [.pointer (some ⟨ch, offOf i, none⟩)]) (h2 : IsBlock w bx2 [.pointer (some ⟨ch, 5, none⟩)]) (hb : bx1 ≠ ch ∧ bx2 ≠ ch) :
    Calls Tryz.prog 255 #[.pointer (some ⟨cc, off, none⟩), .func (.func 270) #[] #[.pointer (some ⟨bx1, 0, none⟩), .pointer (some ⟨bx2, 0, none⟩)]] w fun e w' => e = .returned (.tuple #[]) ∧
      (∃ (s' : CSt) (Z' : Nat → Prop) (N' : Int → Option Int), SameC s s' ∧ IsBlock w' ch (s'.cells b) ∧ NSt w' Z' s'.pos s'.neg (mh + n * (m + 1)) ∧ (∀ k, Z' k → Z k ∨ w.heap.size ≤ k ∧ k < w'.heap.size) ∧ NAt w' Sc hc n N' ∧ (∀ k x, N' k = some x → 0 ≤ x ∧ x ≤ m)) ∧ Only (fun k => Z k ∨ k = ch ∨ Sc k) w w' := by
  have hchl := Hh.lt
  refine (zzRangeAt cc off n 270 hc #[.pointer (some ⟨bx1, 0, none⟩), .pointer (some ⟨bx2, 0, none⟩)] Sc (fun k => Z k ∨ k = ch ∨ Sc k) N ks w hcm HC (by omega) hks enters270 (fun M done w' => AddR i ch b bx1 bx2 s Z Sc hc n mh m N M done.length w') (fun k hk => ?_) (fun w' ho => ?_) (fun M done k rest w' hM hM' hk hJ hT => ?_)).mono ?_
  · rcases hk with hk | hk | hk
    · exact (hZ k hk).2.2.1
    · omega
    · exact (hS k hk).2.2.1
  · refine ⟨⟨s, Z, N, SameC.refl s, ho.isBlock Hh id, (HN.kept ho (fun _ _ => id)).more (by show mh ≤ mh + 0 * (m + 1); omega), fun k hk => .inl hk, HC.kept ho (fun _ _ => id), fun _ => rfl, hNm⟩, ho.isBlock h1 id, ho.isBlock h2 id, Nat.le_refl _⟩
  · obtain ⟨⟨s', Z', N', q1, q2, q3, q4, q5, q6, q7⟩, q8, q9, q10⟩ := hJ
    have hkm := (hks.2 k).1 (by rw [hk]; simp)
    obtain ⟨x, hx⟩ := Option.isSome_iff_exists.1 (by rw [q6 k]; exact hkm.2)
    obtain ⟨g, hl, hSg, hbg, hlater⟩ := q5.lookAt k hkm.1 hx
    have hjl : done.length < ks.length := by have := congrArg List.length hk; rw [List.length_append] at this; simp only [List.length_cons] at this; omega
    have hchn := hZ
    have hw' := hT.size
    have hZ' : ∀ k, Z' k → k ≠ ch ∧ k < w'.heap.size := fun k hk => by
      rcases q4 k hk with h | h
      · have := hZ k h; exact ⟨this.1, by omega⟩
      · exact ⟨by omega, h.2⟩
    have hSZ : ∀ k, Sc k → ¬ (Z' k ∨ k = ch) := fun k hk e => by
      have h0 := hS k hk
      rcases e with e | e
      · rcases q4 k e with h | h
        · exact (hZ k h).2.2.2.1 hk
        · omega
      · exact h0.1 e
    have hbx1 := h1.lt
    have hbx2 := h2.lt
    have hxb := q7 k x hx
    refine ⟨hT.cell hcm (fun e => ?_), _, hl, (addReset_any i ch b g bx1 bx2 s' Z' (mh + done.length * (m + 1)) (mh + (done.length + 1) * (m + 1)) k x w' hkm.1 q2 q3 hZ' q8 q9 hbg (hSZ g hSg) ?_ ?_ hxb.1 ?_ ?_ ?_).mono ?_⟩
    · rcases e with e | e | e
      · exact (hZ _ e).2.1 rfl
      · exact hcc e
      · exact (hS _ e).2.1 rfl
    · rintro (e | e)
      · rcases q4 _ e with h | h
        · exact (hZ _ h).2.2.2.2.1 rfl
        · omega
      · exact hb.1 e
    · rintro (e | e)
      · rcases q4 _ e with h | h
        · exact (hZ _ h).2.2.2.2.2 rfl
        · omega
      · exact hb.2 e
    · obtain ⟨A, hA⟩ : ∃ A, A = mh + done.length * (m + 1) := ⟨_, rfl⟩
      rw [prod_succ, ← hA]; omega
    · have := prod_le done.length m mh (by omega) hm hmh
      obtain ⟨A, hA⟩ : ∃ A, A = mh + (done.length + 1) * (m + 1) := ⟨_, rfl⟩
      rw [← hA] at this ⊢
      omega
    · obtain ⟨A, hA⟩ : ∃ A, A = mh + done.length * (m + 1) := ⟨_, rfl⟩
      rw [prod_succ, ← hA]; omega
    · rintro e w2 ⟨rfl, s2, w1, r1, r2, r3, r4, rfl⟩
      have hsz : (w1.setCell ⟨g, 0, none⟩ (.int .i64 0)).heap.size = w1.heap.size := World.size_setCell _ _ _
      have hge := r4.size
      have hSb := hS g hSg
      refine ⟨rfl, ⟨⟨s2, _, _, q1.trans r1, r2, by rw [List.length_append]; exact r3, fun k hk => ?_, hlater w1 _ r4 hSZ 0, fun k' => ?_, fun k' x' hx' => ?_⟩, ?_, ?_, by omega⟩, ?_⟩
      · rcases hk with hk | hk
        · rcases q4 k hk with h | h
          · exact .inl h
          · right; omega
        · right; omega
      · unfold updN
        split
        · rename_i e; subst e; rw [← q6, hx]; rfl
        · exact q6 k'
      · unfold updN at hx'
        split at hx'
        · cases hx'; omega
        · exact q7 k' x' hx'
      · refine (r4.isBlock q8 ?_).set_ne (a := ⟨g, 0, none⟩) (fun e => hSb.2.2.2.1 e.symm) _
        rintro (e | e)
        · rcases q4 _ e with h | h
          · exact (hZ _ h).2.2.2.2.1 rfl
          · omega
        · exact hb.1 e
      · refine (r4.isBlock q9 ?_).set_ne (a := ⟨g, 0, none⟩) (fun e => hSb.2.2.2.2 e.symm) _
        rintro (e | e)
        · rcases q4 _ e with h | h
          · exact (hZ _ h).2.2.2.2.2 rfl
          · omega
        · exact hb.2 e
      · refine (r4.mono (fun k _ e => ?_)).setCell (p := ⟨g, 0, none⟩) (.inl (.inl (.inr (.inr hSg)))) _
        rcases e with e | e
        · rcases q4 k e with h | h
          · exact .inl (.inl h)
          · exact .inr h.1
        · exact .inl (.inr (.inl e))
  · rintro e w' ⟨rfl, ⟨M, hM, ⟨⟨s', Z', N', q1, q2, q3, q4, q5, q6, q7⟩, q8, q9, q10⟩⟩, hT⟩
    refine ⟨rfl, ⟨s', Z', N', q1, q2, q3.more (Nat.add_le_add_left (Nat.mul_le_mul hkl (Nat.le_refl _)) mh), fun k hk => (q4 k hk).imp id (fun h => ⟨by omega, h.2⟩), q5, q7⟩, hT⟩
end Go.Proofs.YtebjclmbacmilaaGreatDoor
