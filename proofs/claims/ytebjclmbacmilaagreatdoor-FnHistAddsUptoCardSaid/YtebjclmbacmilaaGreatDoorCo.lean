/- FnHistCoarser answers true: a histogram with some of the bounds of another one. Conditions: as stated. -/
import Derived.Test.YtebjclmbacmilaaGreatDoorZo
import Derived.Test.YtebjclmbacmilaaGreatDoorPc
namespace Go.Proofs.YtebjclmbacmilaaGreatDoor
open Go.RowKit

/-- The cells of a slice of bools that came in. -/
def InBools (w : World) (ba : Option Addr) (ks : List Bool) : Prop := ∀ i, i < ks.length → ∃ b off, ba = some ⟨b, off, none⟩ ∧ w.cell? ⟨b, off + i, none⟩ = some (.bool (ks.getD i false))

theorem cells_of_owns {w : World} {b n : Nat} {fa : Option Addr} {fc : Nat} {F : List Nat} (h : w.ownsRow b 25 1 (.slice fa n fc) n (f64s F)) (hn : n = F.length) : InCells w fa F ∧ n ≤ fc ∧ (fa = none → fc = 0) ∧ (∀ a, fa = some a → ∃ b off, a = ⟨b, off, none⟩) := by
  rcases h.2 with ⟨hv, h0⟩ | ⟨g, cap, cur, hv, hg, _, hc, _⟩
  · simp only [Value.slice.injEq] at hv
    obtain ⟨rfl, _, rfl⟩ := hv
    exact ⟨fun i hi => by omega, by omega, fun _ => rfl, fun a ha => by cases ha⟩
  · simp only [Value.slice.injEq] at hv
    obtain ⟨rfl, _, rfl⟩ := hv
    refine ⟨fun i hi => ⟨g, 0, rfl, ?_⟩, hc, (fun h => by cases h), fun a ha => ⟨g, 0, (Option.some.inj ha).symm⟩⟩
    have hj := getD_f64s (l := F) (x := []) hi
    rw [List.append_nil] at hj
    have := h.cells (g := g) rfl _ _ hj
    have e : (⟨g, 0, none⟩ : Addr).add i = ⟨g, 0 + i, none⟩ := by unfold Addr.add; split <;> simp_all
    rw [e] at this
    exact this
/-- A shorter list of the same cells. -/
theorem InCells.cut {w : World} {ba : Option Addr} {bs : List Nat} (h : InCells w ba bs) : InCells w ba (cutBs bs) := by
  unfold cutBs
  split
  · intro i hi
    rw [List.length_dropLast] at hi
    obtain ⟨b, off, he, hc⟩ := h i (by omega)
    refine ⟨b, off, he, ?_⟩
    have e : wd bs.dropLast i = wd bs i := by
      unfold wd
      rw [List.getD_eq_getElem?_getD, List.getD_eq_getElem?_getD, List.getElem?_dropLast, if_pos hi]
    rw [e]; exact hc
  · exact h

/-- A block that has just been made. -/
theorem new_blk {w w' : World} (cs : List Value) (T : TypeId) (h : w' = w.alloc (.cells cs.toArray T)) : IsBlock w' w.heap.size cs ∧ Only (fun _ => False) w w' := by
  subst h
  exact ⟨IsBlock.new w cs T, (Only.refl _ w).alloc _⟩

/-- What the buckets of a converted histogram hold. -/
theorem told_cells {bs l : List Nat} {w : World} {b : Nat} {r : SR} (hR : Rec bs 0 r.asRec l) (ho : w.ownsRow b 43 6 r.q r.bks.length (bRow r.bks)) :
    r.bks.length = bs.length ∧ ∀ k, k < bs.length → ∃ g, r.qa = some ⟨g, 0, none⟩ ∧ w.cell? ⟨g, k * 6, none⟩ = some (.int .u64 (cumN (tally bs l) (k + 1))) ∧ w.cell? ⟨g, k * 6 + 1, none⟩ = some (.float .f64 (wd bs k)) := by
  have hl : r.bks.length = bs.length := by
    have h : r.asRec.bks.length = bs.length := by have := congrArg List.length hR.bks; simpa using this
    exact h
  refine ⟨hl, fun k hk => ?_⟩
  have hk' : k < r.bks.length := by omega
  obtain ⟨g, hg, hc⟩ := row_cells (cl := bCells r.bks[k]) ho hk' (Only.refl _ w) (fun j hj => flat_get bCells 6 (fun _ => rfl) r.bks k j hk' hj)
  have e := congrArg (fun q => q[k]?) hR.bks
  have e0 : (r.asRec).bks = r.bks := rfl
  simp only [e0, List.getElem?_map, List.getElem?_eq_getElem hk', Option.map_some, List.getElem?_range hk, Option.some.injEq, Prod.mk.injEq] at e
  refine ⟨g, hg, ?_, ?_⟩
  · rw [← e.1]; exact hc 0 _ rfl
  · rw [← e.2]; exact hc 1 _ rfl

/-- Between two rounds of the first loop. -/
structure CoRel (w1 : World) (C : List Nat) (keep : List Bool) (k : Nat) (v : Value) (wr : World) : Prop where
  own : wr.ownsRow w1.heap.size 25 1 v (kept C keep k).length (f64s (kept C keep k))
  only : Only (fun _ => False) w1 wr
theorem f64s_snoc (l : List Nat) (x : Nat) : f64s (l ++ [x]) = f64s l ++ [.float .f64 x] := by simp [f64s]
theorem coRel_step {w1 wr w8 : World} {C : List Nat} {keep : List Bool} {k m : Nat} {ta : Option Addr} {tc : Nat} {o : Obj} {v8 : Value} (R : CoRel w1 C keep k (.slice ta m tc) wr) (hm : m = (kept C keep k).length) (hk : keep.getD k false = true)
    (hown : w8.ownsRow w1.heap.size 25 1 v8 (m + 1) (f64s (kept C keep k) ++ [.float .f64 (wd C k)])) (hg : (wr.alloc o).grownBy w8 (Value.slice ta m tc).ownBlock) : CoRel w1 C keep (k + 1) v8 w8 := by
  have hon : Only (fun j => (Value.slice ta m tc).ownBlock = some j) wr w8 := ((Only.refl _ wr).alloc _).trans (Only.grown hg)
  refine ⟨?_, Only.widen R.only hon (fun j hj => (R.own.lt j hj).1)⟩
  rw [kept_succ, if_pos hk, f64s_snoc, List.length_append, ← hm]
  exact hown
theorem coRel_skip {w1 wr : World} {C : List Nat} {keep : List Bool} {k : Nat} {v : Value} (R : CoRel w1 C keep k v wr) (hk : ¬ keep.getD k false = true) : CoRel w1 C keep (k + 1) v wr := by
  have e : kept C keep (k + 1) = kept C keep k := by rw [kept_succ, if_neg hk, List.append_nil]
  exact ⟨by rw [e]; exact R.own, R.only⟩
theorem coRel_end {w1 wr : World} {C : List Nat} {keep : List Bool} {k : Nat} {v : Value} (R : CoRel w1 C keep k v wr) (hk : k ≤ C.length) (he : k = C.length ∨ keep.length ≤ k) : CoRel w1 C keep C.length v wr := by
  rcases he with rfl | he
  · exact R
  · have e : kept C keep C.length = kept C keep k := by unfold kept; rw [keptI_stop keep he hk]
    exact ⟨by rw [e]; exact R.own, R.only⟩
theorem bounds_src {w : World} {fa a' : Option Addr} {fc c' : Nat} {F C : List Nat} (hci : InCells w fa F) (hn1 : fa = none → fc = 0) (hn2 : ∀ a, fa = some a → ∃ b off, a = ⟨b, off, none⟩) (hC : C = cutBs F)
    (hac : a' = fa ∧ c' = fc ∨ a' = none ∧ c' = 0 ∧ C = []) : InCells w a' C ∧ SrcIs w (.slice a' C.length c') 1 C.length (f64s C) := by
  rcases hac with ⟨rfl, rfl⟩ | ⟨rfl, rfl, rfl⟩
  · subst hC
    exact ⟨hci.cut, hci.cut.src hn1 hn2⟩
  · exact ⟨fun i hi => by simp at hi, .inl ⟨rfl, rfl, rfl⟩⟩

/-- Where the buckets of a converted histogram lie, and what they hold. -/
def BkIn (bs l : List Nat) (qa : Option Addr) (w : World) : Prop := ∀ k, k < bs.length → ∃ g, qa = some ⟨g, 0, none⟩ ∧ w.cell? ⟨g, k * 6, none⟩ = some (.int .u64 (cumN (tally bs l) (k + 1))) ∧ w.cell? ⟨g, k * 6 + 1, none⟩ = some (.float .f64 (wd bs k))
theorem BkIn.mono {bs l : List Nat} {qa : Option Addr} {w w' : World} (h : BkIn bs l qa w) (ho : Only (fun _ => False) w w') : BkIn bs l qa w' := fun k hk => by
  obtain ⟨g, h1, h2, h3⟩ := h k hk
  exact ⟨g, h1, ho.cell h2 id, ho.cell h3 id⟩
theorem observe_at (bsl : Value) (la : Option Addr) (lc : Nat) (l : List Nat) (gs : Addr) (gc : Nat) (bs0 bs : List Nat) (w : World)
    (hg : w.cell? ⟨2, 0, none⟩ = some (.slice (some gs) 1 gc)) (hgs : w.cell? gs = some (.int .u8 255))
    (hb : SrcIs w bsl 1 bs0.length (f64s bs0)) (hlen : bs0.length ≤ 1048577) (hasc : Asc (effBs bs0)) (hinc : Incr (cutBs (effBs bs0))) (he : bs = cutBs (effBs bs0))
    (hc : InCells w la l) (hl : l.length ≤ 2097152) :
    Calls Tryz.prog 15 #[.agg #[bsl, .float .f64 0, .float .f64 0, .int .u32 0, .int .i64 0, .float .f64 0, .int .i64 0, .int .i64 0], .slice la l.length lc] w fun e w' => ∃ s qa qc b1 b2, e = .returned (.tuple #[.agg #[.int .u64 l.length, .float .f64 s, .slice qa bs.length qc, .int .i64 0, .bool false, .int .i32 0, .float .f64 0, .int .u64 0, .slice none 0 0, .slice none 0 0, .slice (some ⟨b1, 0, none⟩) 0 0, .slice (some ⟨b2, 0, none⟩) 0 0, .slice none 0 0], .bool true]) ∧
      SumTo l s ∧ BkIn bs l qa w' ∧ Only (fun _ => False) w w' := by
  subst he
  refine (histObserve_plain bsl 0 0 0 0 0 0 0 la lc l gs gc bs0 w hg hgs order_zero hb hlen hasc hinc hc hl).mono ?_
  rintro e w' ⟨r, rfl, hrec, hrow, hon⟩
  obtain ⟨hl2, hbk⟩ := told_cells hrec hrow
  have h1 : r.cnt = l.length := hrec.cnt
  have h2 : r.created = 0 := hrec.created
  refine ⟨r.sum, r.qa, r.qc, r.b1, r.b2, ?_, hrec.sum, hbk, hon⟩
  unfold shC
  rw [h1, h2, hl2]
theorem same_true {l : List Nat} {s r : Nat} (h : SumTo l s) (h' : SumTo l r) : (feq s r || (Fl.isNaN s && Fl.isNaN r)) = true := by
  rcases h.same h' with ⟨rfl, hn⟩ | ⟨h1, h2⟩
  · rw [(feq_iff s s).2 ⟨hn, hn, rfl⟩]; rfl
  · rw [h1, h2]; simp
theorem kept_end {C : List Nat} {keep : List Bool} {k : Nat} (hk : k ≤ C.length) (he : k = C.length ∨ keep.length ≤ k) : kept C keep k = kept C keep C.length := by
  rcases he with rfl | he
  · rfl
  · unfold kept; rw [keptI_stop keep he hk]
end Go.Proofs.YtebjclmbacmilaaGreatDoor
