/- The small functions of makeBuckets and addAndReset. Conditions: as stated. makeBuckets's second literal: a delta more. Conditions: as stated. What makeBuckets reckons: spans and deltas; its second literal over them; a new span. Conditions: as stated. makeBuckets: the keys collected. Conditions: as stated. -/
import Derived.Test.YtebjclmbacmilaaGreatDoorxNg
namespace Go.Proofs.YtebjclmbacmilaaGreatDoor
open Go.RowKit Go.Maps

/-- A list of ints in a variable of its own. -/
structure VarI (w : World) (bi B : Nat) (zs : List Int) : Prop where
  ex : ∃ v, IsBlock w bi [v] ∧ w.ownsRow B 3 1 v zs.length (i64s zs)
  lt : bi < B
  le : B ≤ w.heap.size

set_option maxRecDepth 100000 in
/-- makeBuckets's first literal: a key more. -/
theorem mb1_any (bi B : Nat) (zs : List Int) (k : Int) (x : Value) (w : World) (H : VarI w bi B zs) (hn : zs.length ≤ 17592186044414) :
    Calls Tryz.prog 275 #[.int .i64 k, x, .pointer (some ⟨bi, 0, none⟩)] w fun e w' => e = .returned (.bool true) ∧ VarI w' bi B (zs ++ [k]) ∧ Only (fun j => j = bi ∨ B ≤ j) w w' := by
  obtain ⟨i3, hi, hz0, hz1, hz2⟩ := info_parts info3
  obtain ⟨⟨v, hv, hrow⟩, hlt, hle⟩ := H
  have hc := hv.cell (i := 0) rfl
  have hf := hv.free 0
  have HV := Lib.hid hv
  clear hv
  have hne : ∀ j, v.ownBlock = some j → B ≤ j := fun j hj => (hrow.lt j hj).1
  have HNE := Lib.hid hne
  clear hne
  go_enter Tryz.func275, Tryz.ntmps275
  go_wp2_with (at_builtin; go_must (refine wpList_append_own _ rfl _ _ 23 rfl B 3 i3 _ 1 8 Tryz.underlying23 hi hz0 hz1 hz2 rfl (by decide) _ _ _ rfl (hrow.alloc _) ⟨w.heap.size, 0, none⟩ 1 1 [.int .i64 k] rfl rfl (cells_of (IsBlock.new w [.int .i64 k] 3)) (one_one _ rfl) ?c3 ?c4 ?c5 ?_))
  case c3 => unfold maxLen; omega
  case c4 => omega
  case c5 => rw [World.size_alloc]; omega
  intro v8 w8 hown8 hgr8 _
  obtain ⟨ta8, tc8, rfl⟩ := ownsRow_slice hown8
  have hv8 : IsBlock w8 bi [v] := (Only.grown hgr8).isBlock (HV.out.alloc _) (fun e => by have := HNE.out bi e; omega)
  have hc8 := hv8.cell (i := 0) rfl
  have hf8 := hv8.free 0
  have hge := hgr8.size
  rw [World.size_alloc] at hge
  have HNX : Hid (VarI (w8.setCell ⟨bi, 0, none⟩ (.slice ta8 (zs.length + 1) tc8)) bi B (zs ++ [k]) ∧ Only (fun j => j = bi ∨ B ≤ j) w (w8.setCell ⟨bi, 0, none⟩ (.slice ta8 (zs.length + 1) tc8))) := Lib.hid ⟨⟨⟨_, hv8.set 0 (.slice ta8 (zs.length + 1) tc8), by
      have h := hown8
      rw [show (zs ++ [k]).length = zs.length + 1 from by simp, show i64s (zs ++ [k]) = i64s zs ++ [.int .i64 k] from by simp [i64s]]
      exact ownsRow_setCell_below h (a := ⟨bi, 0, none⟩) hlt _⟩, hlt, by simp; omega⟩, (((Only.refl _ w).alloc _).trans ((Only.grown hgr8).mono (fun j _ e => .inr (HNE.out j e)))).setCell (.inl (.inl rfl)) _⟩
  clear hown8 hgr8 hv8 hge
  go_wp2_with fail
  go_ret
  exact ⟨rfl, HNX.out⟩

/-- A block known whole, with the type of its cells. -/
def IsT (w : World) (b : Nat) (cs : List Value) (T : TypeId) : Prop := w.heap[b]? = some (.cells cs.toArray T (0, 0))
theorem IsT.block {w : World} {b : Nat} {cs : List Value} {T : TypeId} (h : IsT w b cs T) : IsBlock w b cs := ⟨T, h⟩
theorem IsT.new (w : World) (cs : List Value) (T : TypeId) : IsT (w.alloc (.cells cs.toArray T)) w.heap.size cs T := by unfold IsT; exact heap_alloc_new _ _
theorem IsT.kept {w w' : World} {S : Nat → Prop} {b : Nat} {cs : List Value} {T : TypeId} (h : IsT w b cs T) (ho : Only S w w') (hS : ¬ S b) : IsT w' b cs T := by
  have hlt := h.block.lt
  unfold IsT at *
  rw [ho.block b hlt hS]; exact h
theorem IsT.set {w : World} {b : Nat} {cs : List Value} {T : TypeId} (h : IsT w b cs T) (i : Nat) (v : Value) : IsT (w.setCell ⟨b, i, none⟩ v) b (cs.set i v) T := by
  obtain ⟨T', h'⟩ := h.block.set i v
  have e : T' = T := by
    have q := h'
    unfold IsT at h
    simp only [World.setCell] at q
    simp [Array.getElem?_modify, h] at q
    exact q.symm
  rw [e] at h'
  exact h'
theorem IsT.ne_row {w : World} {b g : Nat} {cs : List Value} {T e : TypeId} {base size n : Nat} {v : Value} {xs : List Value} (h : IsT w b cs T) (hr : w.ownsRow base e size v n xs) (hg : v.ownBlock = some g) (hne : e ≠ T) : g ≠ b := by
  rcases hr.2 with ⟨rfl, _⟩ | ⟨g', cap, cur, rfl, _, hh, _⟩
  · cases hg
  · rintro rfl
    have e' : g' = g := by simpa [Value.ownBlock] using hg
    unfold IsT at h
    rw [← e', hh] at h
    simp at h
    exact hne h.2
/-- A span of native buckets: its blocks, its offset, its length. -/
structure Sp where
  g : Nat
  go : Nat
  gl : Nat
  o : Int
  l : Int
structure SpanB (w : World) (B : Nat) (s : Sp) : Prop where
  g : IsT w s.g [.pointer (some ⟨s.go, 0, none⟩), .pointer (some ⟨s.gl, 0, none⟩)] 212
  go : IsT w s.go [.int .i32 s.o] 21
  gl : IsT w s.gl [.int .u32 s.l] 26
  low : B ≤ s.g ∧ B ≤ s.go ∧ B ≤ s.gl
def ptrs (L : List Sp) : List Value := L.map fun s => .pointer (some ⟨s.g, 0, none⟩)
def ints64 (l : List Int) : List Value := l.map (Value.int .i64)
/-- The variables of makeBuckets. -/
structure MBk (w : World) (B bs bd bp : Nat) (L : List Sp) (ds : List Int) (prev : Int) : Prop where
  vs : ∃ v, IsBlock w bs [v] ∧ w.ownsRow B 209 1 v L.length (ptrs L)
  vd : ∃ v, IsBlock w bd [v] ∧ w.ownsRow B 2 1 v ds.length (ints64 ds)
  vp : IsBlock w bp [.int .i64 prev]
  sp : ∀ s ∈ L, SpanB w B s
  nd : (L.map Sp.gl).Nodup
  lt : bs < B ∧ bd < B ∧ bp < B ∧ bs ≠ bd ∧ bs ≠ bp ∧ bd ≠ bp
  le : B ≤ w.heap.size
end Go.Proofs.YtebjclmbacmilaaGreatDoor

namespace Go.Proofs.YtebjclmbacmilaaGreatDoor
open Go.RowKit Go.Maps

theorem info2' : (Tryz.prog.info? 2).map (fun i => (i.zero, i.size, i.bytes)) = some (some (.int .i64 0), 1, 8) := by kernel_rfl
theorem row_cell1 {w : World} {B n i : Nat} {e : TypeId} {v u : Value} {xs : List Value} (h : w.ownsRow B e 1 v n xs) (hi : xs[i]? = some u) : ∃ g cap, v = .slice (some ⟨g, 0, none⟩) n cap ∧ w.cell? ⟨g, i, none⟩ = some u := by
  have hl := h.1
  rcases h.2 with ⟨rfl, h0⟩ | ⟨g, cap, cur, rfl, _⟩
  · have := (List.getElem?_eq_some_iff.1 hi).1
    omega
  · refine ⟨g, cap, rfl, ?_⟩
    have hh := h.cells (g := g) rfl i u hi
    rw [show (⟨g, 0, none⟩ : Addr).add i = ⟨g, i, none⟩ from by cases i <;> simp [Addr.add]] at hh
    exact hh

theorem row_ne_row {w : World} {B B' n n' g : Nat} {e e' : TypeId} {size size' : Nat} {v v' : Value} {xs xs' : List Value} (h : w.ownsRow B e size v n xs) (h' : w.ownsRow B' e' size' v' n' xs') (hne : e ≠ e') (hg : v.ownBlock = some g) : v'.ownBlock ≠ some g := by
  intro hg'
  rcases h.2 with ⟨rfl, _⟩ | ⟨a, cap, cur, rfl, _, hh, _⟩
  · cases hg
  · rcases h'.2 with ⟨rfl, _⟩ | ⟨a', cap', cur', rfl, _, hh', _⟩
    · cases hg'
    · have e1 : a = g := by simpa [Value.ownBlock] using hg
      have e2 : a' = g := by simpa [Value.ownBlock] using hg'
      rw [e1] at hh
      rw [e2, hh] at hh'
      simp at hh'
      exact hne hh'.2
theorem IsT.ne {w : World} {b b' : Nat} {cs cs' : List Value} {T T' : TypeId} (h : IsT w b cs T) (h' : IsT w b' cs' T') (hne : T ≠ T') : b ≠ b' := by
  rintro rfl
  unfold IsT at h h'
  rw [h] at h'
  simp at h'
  exact hne h'.2
theorem SpanB.kept {w w' : World} {S : Nat → Prop} {B : Nat} {s : Sp} (h : SpanB w B s) (ho : Only S w w') (h1 : ¬ S s.g) (h2 : ¬ S s.go) (h3 : ¬ S s.gl) : SpanB w' B s := ⟨h.g.kept ho h1, h.go.kept ho h2, h.gl.kept ho h3, h.low⟩
theorem nodup_last {L0 : List Sp} {s : Sp} (h : ((L0 ++ [s]).map Sp.gl).Nodup) : ∀ x ∈ L0, x.gl ≠ s.gl := by
  intro x hx e
  rw [List.map_append, List.nodup_append] at h
  exact h.2.2 _ (List.mem_map_of_mem (f := Sp.gl) hx) _ (by simp) e

/-- Behind the store of the length, the append of the delta, the stores of both variables. -/
theorem mb2_end {w w1 w8 : World} {B bs bd bp : Nat} {L0 : List Sp} {s : Sp} {ds : List Int} {prev c : Int} (H : MBk w B bs bd bp (L0 ++ [s]) ds prev) (hw1 : w1 = w.setCell ⟨s.gl, 0, none⟩ (.int .u32 (s.l + 1))) {vd v8 : Value} (o : Obj)
    (hrd : w.ownsRow B 2 1 vd ds.length (ints64 ds)) (hvd : IsBlock w bd [vd]) (hgr : (w1.alloc o).grownBy w8 vd.ownBlock) (h8 : w8.ownsRow B 2 1 v8 (ds.length + 1) (ints64 ds ++ [.int .i64 (c - prev)])) :
    MBk ((w8.setCell ⟨bd, 0, none⟩ v8).setCell ⟨bp, 0, none⟩ (.int .i64 c)) B bs bd bp (L0 ++ [{ s with l := s.l + 1 }]) (ds ++ [c - prev]) c ∧ Only (fun j => j = bd ∨ j = bp ∨ B ≤ j) w ((w8.setCell ⟨bd, 0, none⟩ v8).setCell ⟨bp, 0, none⟩ (.int .i64 c)) := by
  obtain ⟨l1, l2, l3, l4, l5, l6⟩ := H.lt
  have hS := H.sp s (by simp)
  have hlow := hS.low
  have ho1 : Only (fun j => j = s.gl) w w1 := by rw [hw1]; exact (Only.refl (fun j => j = s.gl) w).setCell (p := ⟨s.gl, 0, none⟩) (.inl rfl) _
  have hB := H.le
  have hrow : ∀ j, vd.ownBlock = some j → B ≤ j ∧ j < w.heap.size := fun j hj => hrd.lt j hj
  have ho8 : Only (fun j => j = s.gl ∨ vd.ownBlock = some j) w w8 := ((ho1.mono (fun _ _ e => Or.inl e)).alloc o).trans ((Only.grown hgr).mono (fun _ _ e => .inr e))
  have hall : Only (fun j => j = s.gl ∨ vd.ownBlock = some j ∨ j = bd ∨ j = bp) w ((w8.setCell ⟨bd, 0, none⟩ v8).setCell ⟨bp, 0, none⟩ (.int .i64 c)) := ((ho8.mono (fun _ _ e => e.imp id Or.inl)).setCell (.inl (.inr (.inr (.inl rfl)))) _).setCell (.inl (.inr (.inr (.inr rfl)))) _
  have hnb : ∀ b, b < B → ¬ (b = s.gl ∨ vd.ownBlock = some b) := fun b hb e => by
    rcases e with e | e
    · omega
    · have := (hrow b e).1; omega
  have hbd8 := ho8.isBlock hvd (hnb bd l2)
  have hbp8 := ho8.isBlock H.vp (hnb bp l3)
  have hge := hall.size
  refine ⟨{ vs := ?_, vd := ?_, vp := ?_, sp := ?_, nd := ?_, lt := H.lt, le := by omega }, hall.mono (fun j hj e => ?_)⟩
  · obtain ⟨v, hv, hr⟩ := H.vs
    refine ⟨v, hall.isBlock hv (fun e => ?_), ?_⟩
    · rcases e with e | e | e | e
      · omega
      · have := (hrow bs e).1; omega
      · exact l4 e
      · exact l5 e
    · have h := hall.ownsRow hr (fun j hj e => ?_)
      · have e1 : (L0 ++ [{ s with l := s.l + 1 }]).length = (L0 ++ [s]).length := by simp
        have e2 : ptrs (L0 ++ [{ s with l := s.l + 1 }]) = ptrs (L0 ++ [s]) := by simp [ptrs]
        rw [e1, e2]; exact h
      · have hjB := (hr.lt j hj).1
        rcases e with e | e | e | e
        · exact hS.gl.ne_row hr hj (by decide) e
        · exact row_ne_row hr hrd (by decide) hj e
        · omega
        · omega
  · refine ⟨v8, (hbd8.set 0 v8).set_ne (a := ⟨bp, 0, none⟩) l6 _, ?_⟩
    rw [show (ds ++ [c - prev]).length = ds.length + 1 from by simp, show ints64 (ds ++ [c - prev]) = ints64 ds ++ [.int .i64 (c - prev)] from by simp [ints64]]
    exact ownsRow_setCell_below (ownsRow_setCell_below h8 (a := ⟨bd, 0, none⟩) l2 _) (a := ⟨bp, 0, none⟩) l3 _
  · exact (hbp8.set_ne (a := ⟨bd, 0, none⟩) (Ne.symm l6) _).set 0 _
  · intro x hx
    rw [List.mem_append] at hx
    rcases hx with hx | hx
    · have hX := H.sp x (by simp [hx])
      have hXl := hX.low
      refine hX.kept hall (fun e => ?_) (fun e => ?_) (fun e => ?_)
      · rcases e with e | e | e | e
        · exact hX.g.ne hS.gl (by decide) e
        · exact hX.g.ne_row hrd e (by decide) rfl
        · omega
        · omega
      · rcases e with e | e | e | e
        · exact hX.go.ne hS.gl (by decide) e
        · exact hX.go.ne_row hrd e (by decide) rfl
        · omega
        · omega
      · rcases e with e | e | e | e
        · exact nodup_last H.nd x hx e
        · exact hX.gl.ne_row hrd e (by decide) rfl
        · omega
        · omega
    · simp only [List.mem_singleton] at hx
      subst hx
      have hgl8 : IsT w8 s.gl [.int .u32 (s.l + 1)] 26 := by
        have h1 : IsT w1 s.gl [.int .u32 (s.l + 1)] 26 := by rw [hw1]; exact hS.gl.set 0 _
        refine (h1.kept ((Only.refl (fun _ => False) w1).alloc o) id).kept (Only.grown hgr) (fun e => ?_)
        exact hS.gl.ne_row hrd e (by decide) rfl
      have hset : Only (fun j => j = bd ∨ j = bp) w8 ((w8.setCell ⟨bd, 0, none⟩ v8).setCell ⟨bp, 0, none⟩ (.int .i64 c)) := ((Only.refl _ w8).setCell (.inl (.inl rfl)) _).setCell (.inl (.inr rfl)) _
      have hgo : IsT w8 s.go [.int .i32 s.o] 21 := hS.go.kept ho8 (fun e => by
        rcases e with e | e
        · exact hS.go.ne hS.gl (by decide) e
        · exact hS.go.ne_row hrd e (by decide) rfl)
      have hg : IsT w8 s.g [.pointer (some ⟨s.go, 0, none⟩), .pointer (some ⟨s.gl, 0, none⟩)] 212 := hS.g.kept ho8 (fun e => by
        rcases e with e | e
        · exact hS.g.ne hS.gl (by decide) e
        · exact hS.g.ne_row hrd e (by decide) rfl)
      exact ⟨hg.kept hset (by omega), hgo.kept hset (by omega), hgl8.kept hset (by omega), hlow⟩
  · have h := H.nd
    simpa using h
  · rcases e with e | e | e | e
    · right; right; omega
    · exact .inr (.inr (hrow j e).1)
    · exact .inl e
    · exact .inr (.inl e)

set_option maxRecDepth 100000 in
set_option maxHeartbeats 800000 in
theorem mb2_any (B bs bd bp : Nat) (L0 : List Sp) (s : Sp) (ds : List Int) (prev c : Int) (w : World) (H : MBk w B bs bd bp (L0 ++ [s]) ds prev) (hl : 0 ≤ s.l ∧ s.l < 4294967295) (hp : 0 ≤ prev ∧ prev ≤ 4611686018427387904) (hc : 0 ≤ c ∧ c ≤ 4611686018427387904) (hn : ds.length ≤ 8796093022207) (hL : L0.length < 8796093022207) :
    Calls Tryz.prog 276 #[.int .i64 c, .pointer (some ⟨bs, 0, none⟩), .pointer (some ⟨bd, 0, none⟩), .pointer (some ⟨bp, 0, none⟩)] w fun e w' => e = .returned (.tuple #[]) ∧ MBk w' B bs bd bp (L0 ++ [{ s with l := s.l + 1 }]) (ds ++ [c - prev]) c ∧ Only (fun j => j = bd ∨ j = bp ∨ B ≤ j) w w' := by
  obtain ⟨i2, hi, hz0, hz1, hz2⟩ := info_parts info2'
  obtain ⟨vs, hvs, hrs⟩ := H.vs
  obtain ⟨vd, hvd, hrd⟩ := H.vd
  obtain ⟨g, cap, rfl, hcg⟩ := row_cell1 (i := L0.length) (u := .pointer (some ⟨s.g, 0, none⟩)) hrs (by simp [ptrs])
  obtain ⟨tad, tcd, rfl⟩ := ownsRow_slice hrd
  have hS := H.sp s (by simp)
  have cs := hvs.cell (i := 0) rfl
  have cd := hvd.cell (i := 0) rfl
  have fd := hvd.free 0
  have cp := H.vp.cell (i := 0) rfl
  have fp := H.vp.free 0
  have cg := hS.g.block.cell (i := 1) rfl
  have cl := hS.gl.block.cell (i := 0) rfl
  have fl := hS.gl.block.free 0
  obtain ⟨m, hm⟩ : ∃ m, m = L0.length := ⟨_, rfl⟩
  have hlen : (L0 ++ [s]).length = m + 1 := by simp [hm]
  rw [hlen] at cs
  rw [← hm] at hcg
  have HM := Lib.hid (And.intro hm (And.intro hlen (And.intro hrs (And.intro hvs (And.intro hvd (And.intro hS H))))))
  have hmm : wrap64 (m : Int) = m := by unfold wrap64; omega
  have hm0 : (0 : Int) ≤ (m : Int) := by omega
  clear hvs hvd hS H hm hlen hL hrs
  obtain ⟨hl0, hl1⟩ := hl
  obtain ⟨hp0, hp1⟩ := hp
  obtain ⟨hc0, hc1⟩ := hc
  go_enter Tryz.func276, Tryz.ntmps276
  obtain ⟨k, hk⟩ : ∃ k, k = ds.length := ⟨_, rfl⟩
  have HK := Lib.hid hk
  rw [← hk] at hn hrd cd
  clear hk
  have hlow := HM.out.2.2.2.2.2.1.low.2.2
  have hlt := HM.out.2.2.2.2.2.2.lt
  have e1 : bd ≠ s.gl := by omega
  have e2 : bp ≠ s.gl := by omega
  have e3 : s.gl ≠ bd := by omega
  have e4 : s.gl ≠ bp := by omega
  obtain ⟨w1, hw1⟩ : ∃ w1, w1 = w.setCell ⟨s.gl, 0, none⟩ (.int .u32 (s.l + 1)) := ⟨_, rfl⟩
  have ho1 : Only (fun j => j = s.gl) w w1 := by rw [hw1]; exact (Only.refl (fun j => j = s.gl) w).setCell (p := ⟨s.gl, 0, none⟩) (.inl rfl) _
  have hrd1 : w1.ownsRow B 2 1 (.slice tad k tcd) k (ints64 ds) := ho1.ownsRow hrd (fun j hj e => HM.out.2.2.2.2.2.1.gl.ne_row hrd hj (by decide) e)
  have hsz1 : w1.heap.size = w.heap.size := by rw [hw1]; simp
  have HLE := Lib.hid (And.intro hlow (And.intro hlt (And.intro ho1 (And.intro hsz1 (And.intro hrd HM.out.2.2.2.2.2.2.le)))))
  clear hlow hlt ho1 hrd hsz1
  go_wp2_with (at_builtin; go_must (refine wpList_append_own _ rfl _ _ 33 rfl B 2 i2 _ 1 8 Tryz.underlying33 hi hz0 hz1 hz2 rfl (by decide) _ _ _ rfl (show _ from hw1 ▸ hrd1.alloc _) ⟨w.heap.size, 0, none⟩ 1 1 [.int .i64 (c - prev)] rfl rfl ?c2 (one_one _ rfl) ?c3 ?c4 ?c5 ?_))
  case c2 =>
    have h := cells_of (IsBlock.new w1 [.int .i64 (c - prev)] 2)
    have hs := HLE.out.2.2.2.1
    rw [hs, hw1] at h
    exact h
  case c3 => unfold maxLen; omega
  case c4 => omega
  case c5 => have := HLE.out.2.2.2.2.2; rw [World.size_alloc, World.size_setCell]; omega
  intro v8 w8 hown8 hgr8 _
  obtain ⟨ta8, tc8, rfl⟩ := ownsRow_slice hown8
  obtain ⟨m', hlen, hrs, hvs, hvd', hS, H⟩ := HM.out
  have hvd : IsBlock w bd [.slice tad k tcd] := by have h := hvd'; rw [← HK.out] at h; exact h
  have hgr : (w1.alloc (.cells #[.int .i64 (c - prev)] 2)).grownBy w8 (Value.slice tad k tcd).ownBlock := by rw [hw1]; exact hgr8
  have hown : w8.ownsRow B 2 1 (.slice ta8 (k + 1) tc8) (ds.length + 1) (ints64 ds ++ [.int .i64 (c - prev)]) := by have h := hown8; rw [HK.out] at h ⊢; exact h
  have hrd : w.ownsRow B 2 1 (.slice tad k tcd) ds.length (ints64 ds) := by have h := HLE.out.2.2.2.2.1; rw [HK.out] at h ⊢; exact h
  have HE := Lib.hid (mb2_end H hw1 (.cells #[.int .i64 (c - prev)] 2) hrd hvd hgr hown)
  have ho8 : Only (fun j => j = s.gl ∨ (Value.slice tad k tcd).ownBlock = some j) w w8 := ((HLE.out.2.2.1.mono (fun _ _ e => Or.inl e)).alloc _).trans ((Only.grown hgr).mono (fun _ _ e => .inr e))
  have hnb : ∀ b, b < B → ¬ (b = s.gl ∨ (Value.slice tad k tcd).ownBlock = some b) := fun b hb e => by
    rcases e with e | e
    · have := HLE.out.1; omega
    · have := (hrd.lt b e).1; omega
  have hbd8 := ho8.isBlock hvd (hnb bd H.lt.2.1)
  have hbp8 := ho8.isBlock H.vp (hnb bp H.lt.2.2.1)
  have cd8 := hbd8.cell (i := 0) rfl
  have fd8 := hbd8.free 0
  have cp8 := hbp8.cell (i := 0) rfl
  have fp8 := hbp8.free 0
  have e5 : bd ≠ bp := H.lt.2.2.2.2.2
  have e6 : bp ≠ bd := Ne.symm e5
  clear hown8 hgr8 hgr hown hrd ho8 hnb hbd8 hbp8 hvd hvd' hvs hrs hS H hlen m' hrd1 hw1 HLE
  go_wp2_with fail
  go_end0
  exact ⟨rfl, HE.out⟩
end Go.Proofs.YtebjclmbacmilaaGreatDoor

namespace Go.Proofs.YtebjclmbacmilaaGreatDoor
open Go.RowKit Go.Maps

def incLast (l : List (Int × Int)) : List (Int × Int) :=
  match l.getLast? with
  | none => l
  | some p => l.dropLast ++ [(p.1, p.2 + 1)]
theorem incLast_append (l : List (Int × Int)) (p : Int × Int) : incLast (l ++ [p]) = l ++ [(p.1, p.2 + 1)] := by simp [incLast]
structure MS where
  sp : List (Int × Int)
  ds : List Int
  prev : Int
  next : Int
def MS.delta (t : MS) (c : Int) : MS := { t with sp := incLast t.sp, ds := t.ds ++ [c - t.prev], prev := c }
def MS.new (t : MS) (d : Int) : MS := { t with sp := t.sp ++ [(d, 0)] }
def MS.fill (t : MS) : Nat → MS
  | 0 => t
  | n + 1 => (t.fill n).delta 0
def MS.opened (t : MS) (d : Int) : MS := if t.sp = [] ∨ 2 < d then t.new d else t.fill d.toNat
def gapOf (k next : Int) : Int := wrap32 (wrap64 (k - next))
def MS.key (t : MS) (k c : Int) : MS := { (t.opened (gapOf k t.next)).delta c with next := wrap64 (k + 1) }
def mbOf (l : List (Int × Int)) : MS := l.foldl (fun t p => t.key p.1 p.2) ⟨[], [], 0, 0⟩
theorem MS.fill_next (t : MS) (n : Nat) : (t.fill n).next = t.next := by
  induction n with
  | zero => rfl
  | succ n ih => exact ih
theorem MS.delta_next (t : MS) (c : Int) : (t.delta c).next = t.next := rfl
theorem incLast_len (l : List (Int × Int)) : (incLast l).length = l.length := by
  unfold incLast
  cases h : l.getLast? with
  | none => rfl
  | some p =>
    have : l ≠ [] := by rintro rfl; cases h
    have := List.length_pos_iff.2 this
    simp
    omega

/-- The variables of makeBuckets hold these spans and deltas. -/
structure MBR (w : World) (B bs bd bp : Nat) (t : MS) : Prop where
  ex : ∃ L, MBk w B bs bd bp L t.ds t.prev ∧ L.map (fun s => (s.o, s.l)) = t.sp ∧ ∀ s ∈ L, 0 ≤ s.l ∧ s.l ≤ t.ds.length
  prev : 0 ≤ t.prev ∧ t.prev ≤ 4611686018427387904
theorem snoc_of {α : Type} (l : List α) (h : l ≠ []) : ∃ l0 x, l = l0 ++ [x] := ⟨l.dropLast, l.getLast h, (List.dropLast_concat_getLast h).symm⟩

/-- makeBuckets's second literal. -/
theorem mbDelta_any (B bs bd bp : Nat) (t : MS) (c : Int) (w : World) (H : MBR w B bs bd bp t) (hs : t.sp ≠ []) (hc : 0 ≤ c ∧ c ≤ 4611686018427387904) (hn : t.ds.length ≤ 4294967290) (hl : t.sp.length ≤ 4294967290) :
    Calls Tryz.prog 276 #[.int .i64 c, .pointer (some ⟨bs, 0, none⟩), .pointer (some ⟨bd, 0, none⟩), .pointer (some ⟨bp, 0, none⟩)] w fun e w' => e = .returned (.tuple #[]) ∧ MBR w' B bs bd bp (t.delta c) ∧ Only (fun j => j = bd ∨ j = bp ∨ B ≤ j) w w' := by
  obtain ⟨⟨L, hM, hL, hb⟩, hp⟩ := H
  obtain ⟨L0, s, rfl⟩ := snoc_of L (by rintro rfl; exact hs hL.symm)
  have hlen := congrArg List.length hL
  simp only [List.length_map, List.length_append, List.length_cons, List.length_nil] at hlen
  have hsb := hb s (by simp)
  refine (mb2_any B bs bd bp L0 s t.ds t.prev c w hM (by omega) hp hc (by omega) (by omega)).mono ?_
  rintro e w' ⟨rfl, h1, h2⟩
  refine ⟨rfl, ⟨⟨_, h1, ?_, fun x hx => ?_⟩, hc⟩, h2⟩
  · show _ = incLast t.sp
    rw [← hL, List.map_append, List.map_append]
    exact (incLast_append (L0.map fun s => (s.o, s.l)) (s.o, s.l)).symm
  · show _ ∧ _ ≤ (((t.ds ++ [c - t.prev]).length : Nat) : Int)
    rw [List.length_append]
    rw [List.mem_append] at hx
    rcases hx with hx | hx
    · have := hb x (by simp [hx])
      simp only [List.length_cons, List.length_nil]
      omega
    · simp only [List.mem_singleton] at hx
      subst hx
      simp only [List.length_cons, List.length_nil]
      omega

/-- Behind the making of a span and its append. -/
theorem mb_new {w w4 w5 : World} {B bs bd bp g go gl : Nat} {d : Int} {t : MS} {L : List Sp} (hM : MBk w B bs bd bp L t.ds t.prev) (hL : L.map (fun s => (s.o, s.l)) = t.sp) (hb : ∀ s ∈ L, 0 ≤ s.l ∧ s.l ≤ t.ds.length) (hp : 0 ≤ t.prev ∧ t.prev ≤ 4611686018427387904)
    (ho4 : Only (fun _ => False) w w4) (hgo : IsT w4 go [.int .i32 d] 21) (hgl : IsT w4 gl [.int .u32 0] 26) (hg : IsT w4 g [.pointer (some ⟨go, 0, none⟩), .pointer (some ⟨gl, 0, none⟩)] 212) (hlow : w.heap.size ≤ g ∧ w.heap.size ≤ go ∧ w.heap.size ≤ gl)
    {vs v5 : Value} (hvs : IsBlock w bs [vs]) (hrs : w.ownsRow B 209 1 vs L.length (ptrs L)) (hgr : w4.grownBy w5 vs.ownBlock) (h5 : w5.ownsRow B 209 1 v5 (L.length + 1) (ptrs L ++ [.pointer (some ⟨g, 0, none⟩)])) :
    MBR (w5.setCell ⟨bs, 0, none⟩ v5) B bs bd bp (t.new d) ∧ (t.new d).sp ≠ [] ∧ Only (fun j => j = bs ∨ B ≤ j) w (w5.setCell ⟨bs, 0, none⟩ v5) := by
  obtain ⟨l1, l2, l3, l4, l5, l6⟩ := hM.lt
  have hB := hM.le
  have hrow : ∀ j, vs.ownBlock = some j → B ≤ j ∧ j < w.heap.size := fun j hj => hrs.lt j hj
  have ho5 : Only (fun j => vs.ownBlock = some j) w w5 := (ho4.mono (fun _ _ e => e.elim)).trans (Only.grown hgr)
  have hall : Only (fun j => vs.ownBlock = some j ∨ j = bs) w (w5.setCell ⟨bs, 0, none⟩ v5) := (ho5.mono (fun _ _ e => .inl e)).setCell (.inl (.inr rfl)) _
  have hset : Only (fun j => vs.ownBlock = some j ∨ j = bs) w4 (w5.setCell ⟨bs, 0, none⟩ v5) := (((Only.grown hgr).mono (fun _ _ e => Or.inl e) : Only (fun j => vs.ownBlock = some j ∨ j = bs) w4 w5)).setCell (p := ⟨bs, 0, none⟩) (.inl (.inr rfl)) _
  have hnb : ∀ b, b < B → vs.ownBlock ≠ some b := fun b hb e => by have := (hrow b e).1; omega
  have hge := hall.size
  have hnew : ∀ b, w.heap.size ≤ b → ¬ (vs.ownBlock = some b ∨ b = bs) := fun b hb e => by
    rcases e with e | e
    · have := (hrow b e).2; omega
    · omega
  refine ⟨⟨⟨L ++ [⟨g, go, gl, d, 0⟩], { vs := ?_, vd := ?_, vp := ?_, sp := ?_, nd := ?_, lt := hM.lt, le := by omega }, ?_, fun x hx => ?_⟩, hp⟩, by show t.sp ++ [(d, 0)] ≠ []; simp, hall.mono (fun j hj e => ?_)⟩
  · refine ⟨v5, (ho5.isBlock hvs (hnb bs l1)).set 0 v5, ?_⟩
    have e1 : ptrs (L ++ [⟨g, go, gl, d, 0⟩]) = ptrs L ++ [.pointer (some ⟨g, 0, none⟩)] := by simp [ptrs]
    rw [e1, List.length_append]
    exact ownsRow_setCell_below h5 (a := ⟨bs, 0, none⟩) l1 _
  · obtain ⟨v, hv, hr⟩ := hM.vd
    refine ⟨v, hall.isBlock hv (fun e => ?_), hall.ownsRow hr (fun j hj e => ?_)⟩
    · rcases e with e | e
      · exact hnb bd l2 e
      · exact l4 e.symm
    · have := (hr.lt j hj).1
      rcases e with e | e
      · exact row_ne_row hr hrs (by decide) hj e
      · omega
  · refine hall.isBlock hM.vp (fun e => ?_)
    rcases e with e | e
    · exact hnb bp l3 e
    · exact l5 e.symm
  · intro x hx
    rw [List.mem_append] at hx
    rcases hx with hx | hx
    · have hX := hM.sp x hx
      have hXl := hX.low
      refine hX.kept hall (fun e => ?_) (fun e => ?_) (fun e => ?_)
      · rcases e with e | e
        · exact hX.g.ne_row hrs e (by decide) rfl
        · omega
      · rcases e with e | e
        · exact hX.go.ne_row hrs e (by decide) rfl
        · omega
      · rcases e with e | e
        · exact hX.gl.ne_row hrs e (by decide) rfl
        · omega
    · simp only [List.mem_singleton] at hx
      subst hx
      exact ⟨hg.kept hset (hnew _ hlow.1), hgo.kept hset (hnew _ hlow.2.1), hgl.kept hset (hnew _ hlow.2.2), by dsimp only; omega⟩
  · rw [List.map_append, List.nodup_append]
    refine ⟨hM.nd, by simp, fun a ha b hb' => ?_⟩
    obtain ⟨x, hx, rfl⟩ := List.mem_map.1 ha
    simp only [List.map_cons, List.map_nil, List.mem_singleton] at hb'
    subst hb'
    have := (hM.sp x hx).gl.block.lt
    have h3 := hlow.2.2
    omega
  · rw [List.map_append, hL]; rfl
  · rw [List.mem_append] at hx
    rcases hx with hx | hx
    · exact hb x hx
    · simp only [List.mem_singleton] at hx
      subst hx
      exact ⟨Int.le_refl 0, Int.natCast_nonneg _⟩
  · rcases e with e | e
    · exact .inr (hrow j e).1
    · exact .inl e
end Go.Proofs.YtebjclmbacmilaaGreatDoor

namespace Go.Proofs.YtebjclmbacmilaaGreatDoor
open Go.RowKit Go.Maps

theorem ofI32_any (x : Int) (w : World) : Calls Tryz.prog 252 #[.int .i32 x] w fun e w' => e = .returned (.pointer (some ⟨w.heap.size, 0, none⟩)) ∧ w' = w.alloc (.cells #[.int .i32 x] 21) := by
  go_enter Tryz.func252, Tryz.ntmps252
  go_wp2
  go_ret
  exact ⟨rfl, rfl⟩
theorem ofU32_any (x : Int) (w : World) : Calls Tryz.prog 258 #[.int .u32 x] w fun e w' => e = .returned (.pointer (some ⟨w.heap.size, 0, none⟩)) ∧ w' = w.alloc (.cells #[.int .u32 x] 26) := by
  go_enter Tryz.func258, Tryz.ntmps258
  go_wp2
  go_ret
  exact ⟨rfl, rfl⟩

/-- What makeBuckets hands back. -/
structure MOut (w : World) (B : Nat) (vs vd : Value) (t : MS) : Prop where
  ex : ∃ L, w.ownsRow B 209 1 vs L.length (ptrs L) ∧ L.map (fun s => (s.o, s.l)) = t.sp ∧ ∀ s ∈ L, SpanB w B s
  vd : w.ownsRow B 2 1 vd t.ds.length (ints64 t.ds)
def kcOf (N : Int → Option Int) (ks : List Int) : List (Int × Int) := ks.map fun k => (k, (N k).getD 0)
theorem sortedI_keys {N : Int → Option Int} {ks : List Int} (h : KeysOf N ks) : sortedI ks = ks := sorted_keys h (h.1.imp (fun h e => by omega)) h.2

/-- The keys are collected. -/
theorem mbKeys (c off n : Nat) (h : Option Nat) (S : Nat → Prop) (N : Int → Option Int) (ks : List Int) (w : World) (hb : w.cell? ⟨c, off, none⟩ = some (.map h)) (H : NAt w S h n N) (hn : n ≤ 268435456) (hS : ∀ k, S k → k < w.heap.size) (hks : KeysOf N ks) (hkl : ks.length ≤ n) :
    Calls Tryz.prog 255 #[.pointer (some ⟨c, off, none⟩), .func (.func 275) #[] #[.pointer (some ⟨w.heap.size, 0, none⟩)]] (w.alloc (.cells #[.slice none 0 0] 23)) fun e w' => e = .returned (.tuple #[]) ∧ (∃ M, w.heap.size < M ∧ VarI w' w.heap.size M ks) ∧ Only (fun _ => False) w w' := by
  have hcl : c < w.heap.size := cell_lt hb
  have hw1 : (w.alloc (.cells #[.slice none 0 0] 23)).heap.size = w.heap.size + 1 := World.size_alloc _ _
  have ho1 : Only (fun _ => False) w (w.alloc (.cells #[.slice none 0 0] 23)) := (Only.refl _ w).alloc _
  refine (zzRangeAt c off n 275 h #[.pointer (some ⟨w.heap.size, 0, none⟩)] S (fun j => j = w.heap.size) N ks (w.alloc (.cells #[.slice none 0 0] 23)) (ho1.cell hb id) (H.kept ho1 (fun _ _ => id)) (by omega) hks enters275 (fun M done w' => VarI w' w.heap.size M done) (fun k hk => by rw [hk]; omega) (fun w' ho => ?_) (fun M done k rest w' hM hM' hk hJ hT => ?_)).mono ?_
  · have := ho.size
    exact ⟨⟨_, ho.isBlock (IsBlock.new w [.slice none 0 0] 23) id, World.ownsRow_nil _ _ _ _⟩, by omega, Nat.le_refl _⟩
  · have hw' : Only (fun j => j = w.heap.size) w w' := (ho1.mono (fun _ _ e => e.elim)).trans hT
    have hN := H.kept hw' (fun k hk e => by have := hS k hk; omega)
    have hkm := (hks.2 k).1 (by rw [hk]; simp)
    obtain ⟨v, hl, _⟩ := hN.look k hkm.1
    rw [hkm.2] at hl
    refine ⟨hw'.cell hb (by dsimp only; omega), v, hl, (mb1_any _ M done k v w' hJ (by have h := congrArg List.length hk; rw [List.length_append] at h; omega)).mono ?_⟩
    rintro e w2 ⟨rfl, h1, h2⟩
    exact ⟨rfl, h1, h2⟩
  · rintro e w' ⟨rfl, ⟨M, hM, hJ⟩, hT⟩
    exact ⟨rfl, ⟨M, by omega, hJ⟩, ((ho1.mono (fun _ _ e => e.elim)).trans hT).mono (fun k hk e => by omega)⟩
end Go.Proofs.YtebjclmbacmilaaGreatDoor
