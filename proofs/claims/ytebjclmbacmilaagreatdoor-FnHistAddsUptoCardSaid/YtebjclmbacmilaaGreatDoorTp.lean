/- A step of HistRun inside DoorTry, classic, without exemplars: an observation or a writing; what has been observed and written so far. Conditions: as stated. -/
import Derived.Test.YtebjclmbacmilaaGreatDoorSt
import Derived.Test.YtebjclmbacmilaaGreatDoorNk
import Derived.Test.YtebjclmbacmilaaGreatDoorFs
namespace Go.Proofs.YtebjclmbacmilaaGreatDoor
open Go.RowKit

/-- The state of a histogram that has observed l since t0. -/
structure Fits (s : HSt) (bs : List Nat) (t0 : Int) (l : List Nat) : Prop where
  n : s.n = l.length
  bounds : s.bounds = bs
  sch : s.sch = -2147483648
  last : s.last = t0
  sum : SumTo l (s.c s.hot).sum
  bk : (s.c s.hot).bk = tally bs l
  marks : s.marks = List.replicate (bs.length + 1) .nilIface
theorem Fits.new (bs : List Nat) (zt maxZero : Nat) (maxB mr t0 ttl : Int) (nex : Value) : Fits (newS bs (-2147483648) zt maxZero maxB mr t0 ttl nex) bs t0 [] where
  n := rfl
  bounds := rfl
  sch := rfl
  last := rfl
  sum := SumTo.nil
  bk := (tally_nil bs).symm
  marks := rfl
theorem Fits.obs {s : HSt} {bs : List Nat} {t0 : Int} {l : List Nat} (h : Fits s bs t0 l) (v r : Nat) (hr : AddTo (s.c s.hot).sum v r) : Fits (s.obs (place bs v) r) bs t0 (l ++ [v]) where
  n := by show s.n + 1 = _; rw [h.n]; simp
  bounds := h.bounds
  sch := h.sch
  last := h.last
  sum := by
    have e : (s.obs (place bs v) r).c (s.obs (place bs v) r).hot = (s.c s.hot).obs (place bs v) r := if_pos rfl
    rw [e]; exact h.sum.snoc hr
  bk := by
    have e : (s.obs (place bs v) r).c (s.obs (place bs v) r).hot = (s.c s.hot).obs (place bs v) r := if_pos rfl
    rw [e, tally_snoc, ← h.bk]; rfl
  marks := h.marks
theorem Fits.wrote {s : HSt} {bs : List Nat} {t0 : Int} {l : List Nat} (h : Fits s bs t0 l) (r : Nat) (hr : AddTo 0 (s.c s.hot).sum r) : Fits (s.wrote r) bs t0 l where
  n := h.n
  bounds := h.bounds
  sch := h.sch
  last := h.last
  sum := by
    have e : (s.wrote r).c (s.wrote r).hot = (s.c (!s.hot)).warm (s.c s.hot) r := wrote_new s r
    rw [e]; exact h.sum.again hr
  bk := by
    have e : (s.wrote r).c (s.wrote r).hot = (s.c (!s.hot)).warm (s.c s.hot) r := wrote_new s r
    rw [e]; exact h.bk
  marks := h.marks

/-- What is written of the observations l. -/
structure Rec (bs : List Nat) (t0 : Int) (h : HRec) (l : List Nat) : Prop where
  cnt : h.cnt = l.length
  sum : SumTo l h.sum
  created : h.created = t0
  bks : h.bks.map (fun x => (x.cum, x.up)) = (List.range bs.length).map (fun i => (cumN (tally bs l) (i + 1), wd bs i))
/-- The written histograms are those of these observations. -/
structure Outs (bs : List Nat) (t0 : Int) (hs : List HRec) (ls : List (List Nat)) : Prop where
  len : hs.length = ls.length
  ok : ∀ (i : Nat) h l, hs[i]? = some h → ls[i]? = some l → Rec bs t0 h l
theorem Outs.nil (bs : List Nat) (t0 : Int) : Outs bs t0 [] [] := ⟨rfl, fun i h l h1 => by simp at h1⟩
theorem Outs.snoc {bs : List Nat} {t0 : Int} {hs : List HRec} {ls : List (List Nat)} (O : Outs bs t0 hs ls) {h : HRec} {l : List Nat} (hr : Rec bs t0 h l) : Outs bs t0 (hs ++ [h]) (ls ++ [l]) where
  len := by simp [O.len]
  ok := fun i h' l' h1 h2 => by
    rcases Nat.lt_or_ge i hs.length with hi | hi
    · rw [List.getElem?_append_left hi] at h1
      rw [List.getElem?_append_left (by rw [← O.len]; exact hi)] at h2
      exact O.ok i h' l' h1 h2
    · rw [List.getElem?_append_right hi] at h1
      rw [List.getElem?_append_right (by rw [← O.len]; exact hi), ← O.len] at h2
      cases hk : i - hs.length with
      | zero =>
        rw [hk] at h1 h2
        simp only [List.getElem?_cons_zero, Option.some.injEq] at h1 h2
        rw [← h1, ← h2]; exact hr
      | succ j => rw [hk] at h1; simp at h1

/-- A step: its kind, its number, its labels, its time. -/
structure SD where
  kind : Int
  value : Nat
  la : Option Addr
  ln : Nat
  lc : Nat
  at_ : Int
def sCl (x : SD) : List Value := [.int .i64 x.kind, .float .f64 x.value, .slice x.la x.ln x.lc, .int .i64 x.at_]
def sRow (l : List SD) : List Value := l.flatMap sCl
def obsOf (l : List SD) : List Nat := (l.filter fun x => decide (x.kind ≠ 2)).map SD.value
def outsFrom (acc : List Nat) : List SD → List (List Nat)
  | [] => []
  | x :: r => if x.kind = 2 then acc :: outsFrom acc r else outsFrom (acc ++ [x.value]) r
def outsOf (l : List SD) : List (List Nat) := outsFrom [] l
theorem obsOf_snoc (l : List SD) (x : SD) : obsOf (l ++ [x]) = if x.kind = 2 then obsOf l else obsOf l ++ [x.value] := by
  unfold obsOf
  rw [List.filter_append, List.map_append]
  split
  · rename_i h; simp [h]
  · rename_i h; simp [h]
theorem outsFrom_snoc (l : List SD) (x : SD) : ∀ acc, outsFrom acc (l ++ [x]) = outsFrom acc l ++ (if x.kind = 2 then [acc ++ obsOf l] else []) := by
  induction l with
  | nil =>
    intro acc
    simp only [List.nil_append, outsFrom]
    split
    · simp [obsOf]
    · rfl
  | cons y r ih =>
    intro acc
    simp only [List.cons_append, outsFrom]
    have e : obsOf (y :: r) = if y.kind = 2 then obsOf r else y.value :: obsOf r := by
      unfold obsOf
      split
      · rename_i h; simp [h]
      · rename_i h; simp [h]
    by_cases hy : y.kind = 2
    · rw [if_pos hy, if_pos hy, ih, e, if_pos hy]; simp
    · rw [if_neg hy, if_neg hy, ih, e, if_neg hy]; simp
theorem outsOf_snoc (l : List SD) (x : SD) : outsOf (l ++ [x]) = outsOf l ++ (if x.kind = 2 then [obsOf l] else []) := by
  unfold outsOf; rw [outsFrom_snoc]; simp

set_option maxRecDepth 100000 in
/-- A step inside DoorTry. -/
theorem tryStep (X hb ob base : Nat) (p : Pl) (s : HSt) (bs : List Nat) (t0 : Int) (l : List Nat) (hs : List HRec) (ls : List (List Nat)) (x : SD) (W : World)
    (H : HIn W p s) (F : Fits s bs t0 l) (O : OIn W base ob hs) (G : Outs bs t0 hs ls) (hx : IsBlock W X (sCl x)) (hv : IsBlock W hb [.iface 227 (.pointer (some ⟨p.h, 0, none⟩))])
    (hown : ∀ k, p.own k ∨ k = p.u → k < base ∧ k ≠ ob) (hlab : p.labels = .slice none 0 0) (hbw : base ≤ W.heap.size) (hk : x.kind = 0 ∨ x.kind = 2) (hbd : Incr bs) (hbl : bs.length ≤ 1048577) (hll : l.length ≤ 4194304) (hhl : hs.length ≤ 4194304) :
    Calls Tryz.prog 53 #[.func (.func 54) #[] #[.pointer (some ⟨X, 0, none⟩), .pointer (some ⟨hb, 0, none⟩), .pointer (some ⟨ob, 0, none⟩)]] W fun e w' => e = .returned (.bool true) ∧
      ∃ (s' : HSt) (hs' : List HRec), HIn w' p s' ∧ Fits s' bs t0 (if x.kind = 2 then l else l ++ [x.value]) ∧ OIn w' base ob hs' ∧ Outs bs t0 hs' (ls ++ if x.kind = 2 then [l] else []) ∧ Only (fun k => p.own k ∨ k = ob ∨ base ≤ k ∧ Is92 W k) W w' := by
  have hol := O.lt
  have hsz : (W.alloc (.cells #[.bool false] 4)).heap.size = W.heap.size + 1 := World.size_alloc _ _
  have h0 : (W.alloc (.cells #[.bool false] 4)).heap[W.heap.size]? = some (.cells #[.bool false] 4 (0, 0)) := get_new _ _ _ rfl
  have hal : Only (fun _ => False) W (W.alloc (.cells #[.bool false] 4)) := (Only.refl _ W).alloc _
  have h92 : ∀ k, Is92 (W.alloc (.cells #[.bool false] 4)) k → Is92 W k := fun k ⟨cur, fr, h⟩ => by
    rcases Nat.lt_trichotomy k W.heap.size with hk | hk | hk
    · exact ⟨cur, fr, by rw [get_old _ _ _ hk] at h; exact h⟩
    · subst hk; rw [h0] at h; simp at h
    · rw [Array.getElem?_eq_none (by omega)] at h; cases h
  have hxA := hx.alloc (.cells #[.bool false] 4)
  have hvA := hv.alloc (.cells #[.bool false] 4)
  have hOwnLt : ∀ k, p.own k ∨ k = p.u → k < W.heap.size := fun k hk => by have := (hown k hk).1; omega
  refine (doorTry_ok 54 _ W (fun w1 => ∃ (s' : HSt) (hs' : List HRec), HIn w1 p s' ∧ Fits s' bs t0 (if x.kind = 2 then l else l ++ [x.value]) ∧ OIn w1 base ob hs' ∧ Outs bs t0 hs' (ls ++ if x.kind = 2 then [l] else []) ∧ Only (fun k => p.own k ∨ k = ob ∨ base ≤ k ∧ Is92 W k) (W.alloc (.cells #[.bool false] 4)) w1) (fun _ => rfl) ?_).mono ?_
  · have hkeep : ∀ {w1 : World}, Only (fun k => p.own k ∨ k = ob ∨ base ≤ k ∧ Is92 W k) (W.alloc (.cells #[.bool false] 4)) w1 → IsBlock w1 W.heap.size [.bool false] := fun ho => ho.isBlock ⟨4, h0⟩ (fun h => by
      rcases h with h | h | ⟨_, cur, fr, h⟩
      · have := hOwnLt _ (.inl h); omega
      · omega
      · rw [Array.getElem?_eq_none (Nat.le_refl _)] at h; cases h)
    have hfl : s.c s.hot = s.c s.hot := rfl
    rcases hk with hk | hk
    · have c0 := hxA.cell (i := 0) (v := .int .i64 x.kind) rfl
      rw [hk] at c0
      refine (step_observe X hb ob p s x.value _ (H.kept hal) F.sch (by have := F.n; omega) (by rw [F.bounds]; exact hbd) (by rw [F.bounds]; omega) c0 (hxA.cell rfl) (hvA.cell rfl)).mono ?_
      rintro e w1 ⟨rfl, r, hadd, hin, hon⟩
      have hon' : Only (fun k => p.own k ∨ k = ob ∨ base ≤ k ∧ Is92 W k) (W.alloc (.cells #[.bool false] 4)) w1 := hon.mono (fun _ _ h => .inl h)
      rw [F.bounds] at hin
      have hk2 : ¬ x.kind = 2 := by omega
      refine ⟨rfl, hkeep hon', s.obs (place bs x.value) r, hs, hin, by rw [if_neg hk2]; exact F.obs _ _ hadd, (O.mono hal (fun _ h => h.elim)).mono hon (fun k hk => hown k (.inl hk)), by rw [if_neg hk2, List.append_nil]; exact G, hon'⟩
    · have c0 := hxA.cell (i := 0) (v := .int .i64 x.kind) rfl
      rw [hk] at c0
      have hsum : (s.c s.hot).bk.sum ≤ 4611686018427387904 := by rw [F.bk]; have := tally_sum_le bs l; omega
      refine (step_write X hb ob base p s hs _ (H.kept hal) F.sch (by have := F.n; omega) (by rw [F.bounds]; exact hbl) hlab (fun m hm => by rw [F.marks] at hm; exact (List.mem_replicate.1 hm).2) hsum c0 (hvA.cell rfl) (O.mono hal (fun _ h => h.elim)) hown (by omega) hhl).mono ?_
      rintro e w1 ⟨rfl, r, h, hadd, hin, hout, h1, h2, h3, h4, hon⟩
      have hon' : Only (fun k => p.own k ∨ k = ob ∨ base ≤ k ∧ Is92 W k) (W.alloc (.cells #[.bool false] 4)) w1 := hon.mono (fun k _ h => h.imp id (fun h => h.imp id (fun h => ⟨h.1, h92 k h.2⟩)))
      have hrec : Rec bs t0 h l := ⟨by rw [h1, F.n], by rw [h2]; exact F.sum, by rw [h3, F.last], by
        have := congrArg (List.map fun (y : Nat × Nat × Value) => (y.1, y.2.1)) h4
        rw [F.bounds, F.bk] at this
        simpa [bVal, Function.comp_def] using this⟩
      refine ⟨rfl, hkeep hon', s.wrote r, hs ++ [h], hin, by rw [if_pos hk]; exact F.wrote r hadd, hout, by rw [if_pos hk]; exact G.snoc hrec, hon'⟩
  · rintro e w' ⟨rfl, w1, ⟨s', hs', hin, hf, ho, hg, hon⟩, rfl⟩
    have hst : Only (fun k => k = W.heap.size) w1 (w1.setCell ⟨W.heap.size, 0, none⟩ (.bool true)) := (Only.refl (fun k => k = W.heap.size) w1).setCell (p := ⟨W.heap.size, 0, none⟩) (.inl rfl) _
    have hob : ob < W.heap.size := by omega
    refine ⟨rfl, s', hs', hin.mono hst (fun k hk hs => by have := hOwnLt k hk.symm; omega), hf, ?_, hg, Only.widen (hal.mono (fun _ _ h => h.elim) |>.trans hon) hst (fun j hj => by omega)⟩
    obtain ⟨v, hv1, hv2⟩ := ho.var
    have hn : ∀ {e s n : Nat} {v : Value} {xs : List Value}, w1.ownsRow base e s v n xs → e ≠ 4 → (w1.setCell ⟨W.heap.size, 0, none⟩ (.bool true)).ownsRow base e s v n xs := fun h he => hst.ownsRow h (fun k hk hs => by
      subst hs
      rcases h.2 with ⟨rfl, _⟩ | ⟨g, cap, cur, rfl, _, hg, _⟩
      · cases hk
      · have e1 : g = W.heap.size := by simpa [Value.ownBlock] using hk
        subst e1
        have := hon.block W.heap.size (by omega) (fun h => by
          rcases h with h | h | ⟨_, cur, fr, h⟩
          · have := hOwnLt _ (.inl h); omega
          · omega
          · rw [Array.getElem?_eq_none (Nat.le_refl _)] at h; cases h)
        rw [h0, hg] at this
        simp only [Option.some.injEq, Obj.cells.injEq] at this
        exact he this.2.1)
    exact ⟨⟨v, hst.isBlock hv1 (fun h => by omega), hn hv2 (by decide)⟩, fun r hr => hn (ho.bks r hr) (by decide), ho.lt⟩
end Go.Proofs.YtebjclmbacmilaaGreatDoor
