/- The region of FnHistAdds that observes both lists one after the other: it draws its order; an invariant over the operations that have run. Conditions: as stated. (Printed by adds.py.) The region of FnHistAdds that observes both lists one after the other: the call, the store, and the region itself. Conditions: as stated. (Printed by adds.py.) -/
import Derived.Test.YtebjclmbacmilaaGreatDoorCo
import Derived.Test.YtebjclmbacmilaaGreatDoorIw
namespace Go.Proofs.YtebjclmbacmilaaGreatDoor
open Go.RowKit

def opsIn : Code → Nat → Option (Array Oper)
  | .seq a b, n => (opsIn a n).orElse fun _ => opsIn b n
  | .region id ops _, n => if id = n then some ops else none
  | .block _ c, n => opsIn c n
  | .cond _ a b, n => (opsIn a n).orElse fun _ => opsIn b n
  | _, _ => none
/-- The operations of a region. -/
def opsR (f : Func) (n : Nat) : Array Oper := match f.body with | some c => (opsIn c n).getD #[] | none => #[]
theorem early3 : early .any (opsR Tryz.f3 7) = true := by kernel_rfl
theorem size3 : (opsR Tryz.f3 7).size = 13 := by kernel_rfl

/-- What the call answers. -/
structure AdR where
  s : Nat
  qa : Option Addr
  qc : Nat
  b1 : Nat
  b2 : Nat
def AdR.lit (R : AdR) (C l : List Nat) : List Value := [.int .u64 l.length, .float .f64 R.s, .slice R.qa C.length R.qc, .int .i64 0, .bool false, .int .i32 0, .float .f64 0, .int .u64 0, .slice none 0 0, .slice none 0 0, .slice (some ⟨R.b1, 0, none⟩) 0 0, .slice (some ⟨R.b2, 0, none⟩) 0 0, .slice none 0 0]
def Is43 (w : World) (g : Nat) : Prop := ∃ cur fr, w.heap[g]? = some (.cells cur 43 fr)
def slotOf (i : Nat) : Nat := [50, 51, 52, 53, 54, 55, 56, 49, 57, 58, 14, 0, 15].getD i 0
theorem slot_ne : ∀ k, k < 13 → ∀ i, i < 13 → k ≠ i → slotOf k ≠ slotOf i := by decide
/-- What a slot holds behind its operation. -/
def ok3 (w8 : World) (fa : Option Addr) (fc : Nat) (F C : List Nat) (xa : Option Addr) (xc : Nat) (X : List Nat) (ya : Option Addr) (yc : Nat) (Y : List Nat) (L3 L5 L6 L11 : Bool) (R : AdR) (j : Nat) (v : Value) (w : World) : Prop :=
  match j with
  | 50 => v = .agg #[.slice fa F.length fc, .float .f64 0, .float .f64 0, .int .u32 0, .int .i64 0, .float .f64 0, .int .i64 0, .int .i64 0]
  | 51 => L3 = false → ∃ b, v = .slice (some ⟨b, 0, none⟩) 0 0 ∧ w.ownsRow w8.heap.size 25 1 v 0 []
  | 52 => v = .slice xa X.length xc
  | 53 => L5 = false → ∃ ta tc, v = .slice ta X.length tc ∧ w.ownsRow w8.heap.size 25 1 v X.length (f64s X)
  | 54 => v = .slice ya Y.length yc
  | 55 => L6 = false → ∃ ta tc, v = .slice ta (X ++ Y).length tc ∧ w.ownsRow w8.heap.size 25 1 v (X ++ Y).length (f64s (X ++ Y))
  | 56 => v = .tuple #[.agg (R.lit C (X ++ Y)).toArray, .bool true]
  | 49 => v = .tuple #[.agg (R.lit C (X ++ Y)).toArray, .bool true]
  | 57 => v = .agg (R.lit C (X ++ Y)).toArray
  | 58 => v = .bool true
  | 15 => v = .bool true
  | 14 => ∃ z, v = .pointer (some ⟨z, 0, none⟩) ∧ w8.heap.size ≤ z ∧ (L11 = false → w.heap[z]? = some (.cells (hVals 0 0 (.slice none 0 0) 0).toArray 36 (0, 0))) ∧ (L11 = true → IsBlock w z (R.lit C (X ++ Y)))
  | _ => True
theorem ok3_mono {w8 : World} {fa : Option Addr} {fc : Nat} {F C : List Nat} {xa : Option Addr} {xc : Nat} {X : List Nat} {ya : Option Addr} {yc : Nat} {Y : List Nat} {L3 L5 L6 L11 : Bool} {R : AdR} {j : Nat} {v : Value} {w w' : World} (h : ok3 w8 fa fc F C xa xc X ya yc Y L3 L5 L6 L11 R j v w) (ho : Only (fun _ => False) w w') : ok3 w8 fa fc F C xa xc X ya yc Y L3 L5 L6 L11 R j v w' := by
  have hlt : ∀ (z : Nat) (o : Obj), w.heap[z]? = some o → w'.heap[z]? = some o := fun z o hz => by
    have hb : z < w.heap.size := by
      rcases Nat.lt_or_ge z w.heap.size with h | h
      · exact h
      · rw [Array.getElem?_eq_none h] at hz; cases hz
    rw [ho.block z hb id]; exact hz
  unfold ok3 at h ⊢
  split at h <;> first
    | exact h
    | (intro hl; obtain ⟨ta, tc, h1, h2⟩ := h hl; exact ⟨ta, tc, h1, ho.ownsRow h2 (fun _ _ => id)⟩)
    | (intro hl; obtain ⟨b, h1, h2⟩ := h hl; exact ⟨b, h1, ho.ownsRow h2 (fun _ _ => id)⟩)
    | (obtain ⟨z, h1, h2, h3, h4⟩ := h; exact ⟨z, h1, h2, fun hl => hlt _ _ (h3 hl), fun hl => ho.isBlock (h4 hl) id⟩)

/-- Between two operations. -/
structure In3 (w8 : World) (fa : Option Addr) (fc : Nat) (F C : List Nat) (xa : Option Addr) (xc : Nat) (X : List Nat) (ya : Option Addr) (yc : Nat) (Y : List Nat) (R : AdR) (L : Nat → Bool) (s : Nat → Value) (w : World) : Prop where
  only : Only (fun _ => False) w8 w
  ok : ∀ i, i < 13 → i ≠ 11 → L i = true → ok3 w8 fa fc F C xa xc X ya yc Y (L 3) (L 5) (L 6) (L 11) R (slotOf i) (s (slotOf i)) w
  res : L 6 = true → SumTo (X ++ Y) R.s ∧ BkIn C (X ++ Y) R.qa w ∧ ∀ g, R.qa = some ⟨g, 0, none⟩ → Is43 w g
  al : L 10 = false → L 11 = false
  late : (L 3 = false → L 5 = false) ∧ (L 5 = false → L 6 = false) ∧ (L 6 = false → L 7 = false ∧ L 8 = false ∧ L 9 = false ∧ L 11 = false ∧ L 12 = false)
theorem is43_mono {w w' : World} {S : Nat → Prop} {g : Nat} (h : Is43 w g) (ho : Only S w w') (hs : ¬ S g) : Is43 w' g := by
  obtain ⟨cur, fr, hz⟩ := h
  have hb : g < w.heap.size := by
    rcases Nat.lt_or_ge g w.heap.size with h | h
    · exact h
    · rw [Array.getElem?_eq_none h] at hz; cases hz
  exact ⟨cur, fr, by rw [ho.block g hb hs]; exact hz⟩
theorem In3.put {w8 : World} {fa : Option Addr} {fc : Nat} {F C : List Nat} {xa : Option Addr} {xc : Nat} {X : List Nat} {ya : Option Addr} {yc : Nat} {Y : List Nat} {R : AdR} {L : Nat → Bool} {s : Nat → Value} {w w' : World} (h : In3 w8 fa fc F C xa xc X ya yc Y R L s w) (i : Nat) (hi : i < 13) (h3 : i ≠ 3) (h5 : i ≠ 5) (h6 : i ≠ 6) (h11 : i ≠ 11) (hl : i < 7 ∨ i = 10 ∨ L 6 = true) (v : Value) (ho : Only (fun _ => False) w w')
    (hv : ok3 w8 fa fc F C xa xc X ya yc Y (L 3) (L 5) (L 6) (L 11) R (slotOf i) v w') : In3 w8 fa fc F C xa xc X ya yc Y R (upd L i) (putS s (slotOf i) v) w' := by
  have e3 := upd_ne L (Ne.symm h3)
  have e5 := upd_ne L (Ne.symm h5)
  have e6 := upd_ne L (Ne.symm h6)
  have e11 := upd_ne L (Ne.symm h11)
  refine ⟨h.only.trans ho, fun k hk hk11 hL => ?_, fun hL => ?_, fun hL => ?_, ?_⟩
  · rw [e3, e5, e6, e11]
    by_cases e : k = i
    · subst e
      have : putS s (slotOf k) v (slotOf k) = v := if_pos rfl
      rw [this]; exact hv
    · have : putS s (slotOf i) v (slotOf k) = s (slotOf k) := if_neg (slot_ne k hk i hi e)
      rw [this]
      rw [upd_ne L e] at hL
      exact ok3_mono (h.ok k hk hk11 hL) ho
  · rw [e6] at hL
    obtain ⟨a, b, c⟩ := h.res hL
    exact ⟨a, b.mono ho, fun g hg => is43_mono (c g hg) ho id⟩
  · rw [e11]
    refine h.al ?_
    by_cases e : 10 = i
    · subst e; rw [upd_self] at hL; cases hL
    · rw [upd_ne L e] at hL; exact hL
  · rw [e3, e5, e6]
    refine ⟨h.late.1, h.late.2.1, fun hL => ?_⟩
    obtain ⟨a, b, c, d, e⟩ := h.late.2.2 hL
    have hne : i < 7 ∨ i = 10 := by
      rcases hl with hl | hl | hl
      · exact .inl hl
      · exact .inr hl
      · rw [hl] at hL; cases hL
    rw [upd_ne L (show 7 ≠ i by omega), upd_ne L (show 8 ≠ i by omega), upd_ne L (show 9 ≠ i by omega), e11, upd_ne L (show 12 ≠ i by omega)]
    exact ⟨a, b, c, d, e⟩
/-- Behind an append: the row of its own may have been written. -/
theorem In3.grow {w8 : World} {fa : Option Addr} {fc : Nat} {F C : List Nat} {xa : Option Addr} {xc : Nat} {X : List Nat} {ya : Option Addr} {yc : Nat} {Y : List Nat} {R : AdR} {L : Nat → Bool} {s : Nat → Value} {w w' : World} (h : In3 w8 fa fc F C xa xc X ya yc Y R L s w) (i : Nat) (hi : i = 3 ∨ i = 5) (h6 : L 6 = false) (h53 : i = 3 → L 5 = false) (h35 : i = 5 → L 3 = true) (hLi : L i = false) {x v : Value} {n : Nat} {xs : List Value}
    (hx : w.ownsRow w8.heap.size 25 1 x n xs) (ho : Only (fun j => x.ownBlock = some j) w w') (hv : ok3 w8 fa fc F C xa xc X ya yc Y (upd L i 3) (upd L i 5) (L 6) (L 11) R (slotOf i) v w') : In3 w8 fa fc F C xa xc X ya yc Y R (upd L i) (putS s (slotOf i) v) w' := by
  have e6 := upd_ne L (show 6 ≠ i by omega)
  have e11 := upd_ne L (show 11 ≠ i by omega)
  have hlate := h.late.2.2 h6
  refine ⟨Only.widen h.only ho (fun j hj => (hx.lt j hj).1), fun k hk hk11 hL => ?_, fun hL => ?_, fun hL => by rw [e11]; rw [upd_ne L (show 10 ≠ i by omega)] at hL; exact h.al hL, ?_⟩
  · rw [e6, e11]
    by_cases e : k = i
    · subst e
      have : putS s (slotOf k) v (slotOf k) = v := if_pos rfl
      rw [this]; exact hv
    · have : putS s (slotOf i) v (slotOf k) = s (slotOf k) := if_neg (slot_ne k hk i (by omega) e)
      rw [this]
      rw [upd_ne L e] at hL
      have hok := h.ok k hk hk11 hL
      obtain ⟨l7, l8, l9, l11, l12⟩ := hlate
      have hkc : k = 0 ∨ k = 1 ∨ k = 2 ∨ k = 3 ∨ k = 4 ∨ k = 5 ∨ k = 10 := by
        have : k ≠ 6 ∧ k ≠ 7 ∧ k ≠ 8 ∧ k ≠ 9 ∧ k ≠ 12 := by
          refine ⟨?_, ?_, ?_, ?_, ?_⟩ <;> (rintro rfl; simp_all)
        omega
      rcases hkc with rfl | rfl | rfl | rfl | rfl | rfl | rfl
      · exact hok
      · intro hl
        rcases hi with rfl | rfl
        · rw [upd_self] at hl; cases hl
        · rw [upd_ne L (by decide), h35 rfl] at hl; cases hl
      · exact hok
      · intro hl
        rcases hi with rfl | rfl
        · exact absurd rfl e
        · rw [upd_self] at hl; cases hl
      · exact hok
      · rcases hi with rfl | rfl
        · rw [h53 rfl] at hL; cases hL
        · exact absurd rfl e
      · obtain ⟨z, h1, h2, h3, h4⟩ := hok
        refine ⟨z, h1, h2, fun hl => ?_, fun hl => by rw [l11] at hl; cases hl⟩
        have hz := h3 hl
        have hb : z < w.heap.size := by
          rcases Nat.lt_or_ge z w.heap.size with h | h
          · exact h
          · rw [Array.getElem?_eq_none h] at hz; cases hz
        rw [ho.block z hb (fun e' => by
          obtain ⟨cur, hc⟩ := ownsRow_type hx e'
          rw [hz] at hc
          simp at hc)]
        exact hz
  · rw [e6, h6] at hL; cases hL
  · rw [e6]
    refine ⟨fun hl => ?_, fun _ => h6, fun _ => ?_⟩
    · rcases hi with rfl | rfl
      · rw [upd_self] at hl; cases hl
      · rw [upd_ne L (by decide), h35 rfl] at hl; cases hl
    · rw [upd_ne L (show 7 ≠ i by omega), upd_ne L (show 8 ≠ i by omega), upd_ne L (show 9 ≠ i by omega), e11, upd_ne L (show 12 ≠ i by omega)]
      exact hlate
/-- Behind the call. -/
theorem In3.call {w8 : World} {fa : Option Addr} {fc : Nat} {F C : List Nat} {xa : Option Addr} {xc : Nat} {X : List Nat} {ya : Option Addr} {yc : Nat} {Y : List Nat} {R R' : AdR} {L : Nat → Bool} {s : Nat → Value} {w w' : World} (h : In3 w8 fa fc F C xa xc X ya yc Y R L s w) (h6 : L 6 = false) (h5 : L 5 = true) (ho : Only (fun _ => False) w w') (hs : SumTo (X ++ Y) R'.s) (hb : BkIn C (X ++ Y) R'.qa w') (hg : ∀ g, R'.qa = some ⟨g, 0, none⟩ → Is43 w' g) :
    In3 w8 fa fc F C xa xc X ya yc Y R' (upd L 6) (putS s 56 (.tuple #[.agg (R'.lit C (X ++ Y)).toArray, .bool true])) w' := by
  obtain ⟨l7, l8, l9, l11, l12⟩ := h.late.2.2 h6
  refine ⟨h.only.trans ho, fun k hk hk11 hL => ?_, fun _ => ⟨hs, hb, hg⟩, fun hL => by rw [upd_ne L (show 11 ≠ 6 by decide)]; rw [upd_ne L (show 10 ≠ 6 by decide)] at hL; exact h.al hL, ?_⟩
  · rw [upd_ne L (show 3 ≠ 6 by decide), upd_ne L (show 5 ≠ 6 by decide), upd_self, upd_ne L (show 11 ≠ 6 by decide)]
    by_cases e : k = 6
    · subst e; rfl
    · have : putS s 56 (.tuple #[.agg (R'.lit C (X ++ Y)).toArray, .bool true]) (slotOf k) = s (slotOf k) := if_neg (slot_ne k hk 6 (by decide) e)
      rw [this]
      rw [upd_ne L e] at hL
      have hok := ok3_mono (h.ok k hk hk11 hL) ho
      have hkc : k = 0 ∨ k = 1 ∨ k = 2 ∨ k = 3 ∨ k = 4 ∨ k = 5 ∨ k = 10 := by
        have : k ≠ 7 ∧ k ≠ 8 ∧ k ≠ 9 ∧ k ≠ 12 := by
          refine ⟨?_, ?_, ?_, ?_⟩ <;> (rintro rfl; simp_all)
        omega
      rcases hkc with rfl | rfl | rfl | rfl | rfl | rfl | rfl
      · exact hok
      · exact hok
      · exact hok
      · exact hok
      · exact hok
      · intro hl; cases hl
      · obtain ⟨z, h1, h2, h3, h4⟩ := hok
        exact ⟨z, h1, h2, h3, fun hl => by rw [l11] at hl; cases hl⟩
  · rw [upd_self]
    refine ⟨fun hl => ?_, fun hl => ?_, fun hl => by cases hl⟩
    · rw [upd_ne L (show 3 ≠ 6 by decide)] at hl
      rw [upd_ne L (show 5 ≠ 6 by decide)]; exact h.late.1 hl
    · rw [upd_ne L (show 5 ≠ 6 by decide), h5] at hl; cases hl
/-- Behind the store. -/
theorem In3.store {w8 : World} {fa : Option Addr} {fc : Nat} {F C : List Nat} {xa : Option Addr} {xc : Nat} {X : List Nat} {ya : Option Addr} {yc : Nat} {Y : List Nat} {R : AdR} {L : Nat → Bool} {s : Nat → Value} {w : World} (h : In3 w8 fa fc F C xa xc X ya yc Y R L s w) (h3 : L 3 = true) (h5 : L 5 = true) (h6 : L 6 = true) (h10 : L 10 = true) (h11 : L 11 = false) :
    ∃ z, s 14 = .pointer (some ⟨z, 0, none⟩) ∧ IsBlock w z (hVals 0 0 (.slice none 0 0) 0) ∧ In3 w8 fa fc F C xa xc X ya yc Y R (upd L 11) s (put65 w z (.int .u64 (X ++ Y).length) (.float .f64 R.s) (.slice R.qa C.length R.qc) (.int .i64 0) (.bool false) (.int .i32 0) (.float .f64 0) (.int .u64 0) (.slice none 0 0) (.slice none 0 0) (.slice (some ⟨R.b1, 0, none⟩) 0 0) (.slice (some ⟨R.b2, 0, none⟩) 0 0) (.slice none 0 0)) := by
  obtain ⟨z, hz1, hz2, hz3, _⟩ := h.ok 10 (by decide) (by decide) h10
  have hz := hz3 h11
  have hblk : IsBlock w z (hVals 0 0 (.slice none 0 0) 0) := ⟨36, hz⟩
  obtain ⟨w', hw'⟩ : ∃ w', w' = put65 w z (.int .u64 (X ++ Y).length) (.float .f64 R.s) (.slice R.qa C.length R.qc) (.int .i64 0) (.bool false) (.int .i32 0) (.float .f64 0) (.int .u64 0) (.slice none 0 0) (.slice none 0 0) (.slice (some ⟨R.b1, 0, none⟩) 0 0) (.slice (some ⟨R.b2, 0, none⟩) 0 0) (.slice none 0 0) := ⟨_, rfl⟩
  have ho : Only (fun k => k = z) w w' := by rw [hw']; exact stored_one _ _ _ _ _ _ _ _ _ _ _ _ _ _ _
  have ho8 : Only (fun _ => False) w8 w' := by rw [hw']; exact stored_only h.only hz2 _ _ _ _ _ _ _ _ _ _ _ _ _
  have hbl : IsBlock w' z (R.lit C (X ++ Y)) := by rw [hw']; exact stored_blk hblk _ _ _ _ _ _ _ _ _ _ _ _ _
  refine ⟨z, hz1, hblk, ?_⟩
  rw [← hw']
  refine ⟨ho8, fun k hk hk11 hL => ?_, fun _ => ?_, fun hl => ?_, ?_⟩
  · rw [upd_ne L (show 3 ≠ 11 by decide), upd_ne L (show 5 ≠ 11 by decide), upd_ne L (show 6 ≠ 11 by decide), upd_self, h3, h5, h6]
    rw [upd_ne L hk11] at hL
    have hok := h.ok k hk hk11 hL
    have hkc : k = 0 ∨ k = 1 ∨ k = 2 ∨ k = 3 ∨ k = 4 ∨ k = 5 ∨ k = 6 ∨ k = 7 ∨ k = 8 ∨ k = 9 ∨ k = 10 ∨ k = 12 := by omega
    rcases hkc with rfl | rfl | rfl | rfl | rfl | rfl | rfl | rfl | rfl | rfl | rfl | rfl
    · exact hok
    · intro hl; cases hl
    · exact hok
    · intro hl; cases hl
    · exact hok
    · intro hl; cases hl
    · exact hok
    · exact hok
    · exact hok
    · exact hok
    · exact ⟨z, hz1, hz2, (fun hl => by cases hl), fun _ => hbl⟩
    · exact hok
  · obtain ⟨a, b, c⟩ := h.res h6
    have hne : ∀ g, R.qa = some ⟨g, 0, none⟩ → ¬ g = z := fun g hg e => by
      subst e
      obtain ⟨cur, fr, hc⟩ := c g hg
      rw [hz] at hc
      simp at hc
    refine ⟨a, fun k hk => ?_, fun g hg => is43_mono (c g hg) ho (hne g hg)⟩
    obtain ⟨g, h1, h2, h4⟩ := b k hk
    exact ⟨g, h1, ho.cell h2 (hne g h1), ho.cell h4 (hne g h1)⟩
  · rw [upd_ne L (show 10 ≠ 11 by decide), h10] at hl; cases hl
  · rw [upd_ne L (show 3 ≠ 11 by decide), upd_ne L (show 5 ≠ 11 by decide), upd_ne L (show 6 ≠ 11 by decide), h3, h5, h6]
    exact ⟨(fun hl => by cases hl), (fun hl => by cases hl), (fun hl => by cases hl)⟩

/-- The frame. -/
def fr3 (f s : Nat → Value) : Act := ⟨#[f 0, f 1, f 2, f 3, f 4, f 5, f 6, f 7, f 8, f 9, f 10, f 11, f 12, f 13, s 14, s 15, f 16, f 17, f 18, f 19, f 20, f 21, f 22, f 23, f 24, f 25, f 26, f 27, f 28, f 29, f 30, f 31, f 32, f 33, f 34, f 35, f 36, f 37, f 38, f 39, f 40, f 41, f 42, f 43, f 44, f 45, f 46, f 47, f 48, s 49, s 50, s 51, s 52, s 53, s 54, s 55, s 56, s 57, s 58, f 59, f 60, f 61, f 62, f 63, f 64, f 65, f 66, f 67, f 68, f 69, f 70, f 71, f 72, f 73, f 74, f 75, f 76, f 77, f 78, f 79, f 80, f 81, f 82, f 83, f 84, f 85, f 86, f 87, f 88, f 89, f 90, f 91, f 92, f 93, f 94, f 95, f 96, f 97, f 98, f 99, f 100, f 101, f 102, f 103, f 104, f 105, f 106, f 107, f 108, f 109, f 110, f 111, f 112, f 113, f 114, f 115, f 116, f 117, f 118, f 119, f 120, f 121, f 122, f 123, f 124, f 125, f 126, f 127, f 128, f 129, f 130, f 131, f 132, f 133, f 134, f 135, f 136, f 137, f 138, f 139, f 140, f 141, f 142, f 143, f 144, f 145, f 146, f 147, f 148, f 149], []⟩
def Inv3 (w8 : World) (fa : Option Addr) (fc : Nat) (F C : List Nat) (xa : Option Addr) (xc : Nat) (X : List Nat) (ya : Option Addr) (yc : Nat) (Y : List Nat) (f : Nat → Value) (L : Nat → Bool) (a : Act) (w : World) : Prop := ∃ R s, a = fr3 f s ∧ In3 w8 fa fc F C xa xc X ya yc Y R L s w
/-- What the region starts from. -/
structure Ad8 (w8 : World) (sb : Nat) (fa : Option Addr) (fc : Nat) (F C : List Nat) (xa : Option Addr) (xc : Nat) (X : List Nat) (ya : Option Addr) (yc : Nat) (Y : List Nat) (f : Nat → Value) : Prop where
  blk : IsBlock w8 sb [.slice fa F.length fc, .float .f64 0, .float .f64 0, .int .u32 0, .int .i64 0, .float .f64 0, .int .i64 0, .int .i64 0]
  e7 : f 7 = .pointer (some ⟨sb, 0, none⟩)
  e8 : f 8 = .slice xa X.length xc
  e9 : f 9 = .slice ya Y.length yc
  hx : SrcIs w8 (.slice xa X.length xc) 1 X.length (f64s X)
  hy : SrcIs w8 (.slice ya Y.length yc) 1 Y.length (f64s Y)
  lx : X.length ≤ 1048576
  ly : Y.length ≤ 1048576
  obs : ∀ (ta : Option Addr) (tc : Nat) (w : World), Only (fun _ => False) w8 w → InCells w ta (X ++ Y) → Calls Tryz.prog 15 #[.agg #[.slice fa F.length fc, .float .f64 0, .float .f64 0, .int .u32 0, .int .i64 0, .float .f64 0, .int .i64 0, .int .i64 0], .slice ta (X ++ Y).length tc] w fun e w' => ∃ R : AdR, e = .returned (.tuple #[.agg (R.lit C (X ++ Y)).toArray, .bool true]) ∧
    SumTo (X ++ Y) R.s ∧ BkIn C (X ++ Y) R.qa w' ∧ (∀ g, R.qa = some ⟨g, 0, none⟩ → Is43 w' g) ∧ Only (fun _ => False) w w'

set_option maxRecDepth 100000 in
set_option maxHeartbeats 1600000 in
theorem st3_0 (w8 : World) (sb : Nat) (fa : Option Addr) (fc : Nat) (F C : List Nat) (xa : Option Addr) (xc : Nat) (X : List Nat) (ya : Option Addr) (yc : Nat) (Y : List Nat) (f : Nat → Value) (d8 : Ad8 w8 sb fa fc F C xa xc X ya yc Y f) (R : AdR) (Q : Exit → Act → World → Prop) (L : Nat → Bool) (s : Nat → Value) (w : World) (h : In3 w8 fa fc F C xa xc X ya yc Y R L s w) (_ : L 0 = false) (_ : ∀ j ∈ depsOf .any (opsR Tryz.f3 7) 0, L j = true) :
    wpOp Tryz.prog (opsR Tryz.f3 7) Q 0 (Inv3 w8 fa fc F C xa xc X ya yc Y f (upd L 0)) (fr3 f s) w := by
  have hb := h.only.isBlock d8.blk id
  have c0 := hb.cell (i := 0) rfl
  have c1 := hb.cell (i := 1) rfl
  have c2 := hb.cell (i := 2) rfl
  have c3 := hb.cell (i := 3) rfl
  have c4 := hb.cell (i := 4) rfl
  have c5 := hb.cell (i := 5) rfl
  have c6 := hb.cell (i := 6) rfl
  have c7 := hb.cell (i := 7) rfl
  have e7 := d8.e7
  refine wpOp_step (o := ?o) ?ho (fun K' hK' => ?_)
  case ho =>
    conv =>
      lhs
      whnf
      arg 1
      whnf
  unfold fr3
  go_simp
  refine hK' _ _ ⟨R, _, ?_, h.put 0 (by decide) (by decide) (by decide) (by decide) (by decide) (.inl (by decide)) _ (Only.refl _ _) rfl⟩
  simp [fr3, putS, slotOf, e7]
set_option maxRecDepth 100000 in
set_option maxHeartbeats 1600000 in
theorem st3_1 (w8 : World) (sb : Nat) (fa : Option Addr) (fc : Nat) (F C : List Nat) (xa : Option Addr) (xc : Nat) (X : List Nat) (ya : Option Addr) (yc : Nat) (Y : List Nat) (f : Nat → Value) (_ : Ad8 w8 sb fa fc F C xa xc X ya yc Y f) (R : AdR) (Q : Exit → Act → World → Prop) (L : Nat → Bool) (s : Nat → Value) (w : World) (h : In3 w8 fa fc F C xa xc X ya yc Y R L s w) (_ : L 1 = false) (_ : ∀ j ∈ depsOf .any (opsR Tryz.f3 7) 1, L j = true) :
    wpOp Tryz.prog (opsR Tryz.f3 7) Q 1 (Inv3 w8 fa fc F C xa xc X ya yc Y f (upd L 1)) (fr3 f s) w := by
  refine wpOp_step (o := ?o) ?ho (fun K' hK' => ?_)
  case ho =>
    conv =>
      lhs
      whnf
      arg 1
      whnf
  unfold fr3
  go_simp
  refine hK' _ _ ⟨R, _, ?_, h.put 1 (by decide) (by decide) (by decide) (by decide) (by decide) (.inl (by decide)) _ ((Only.refl _ _).alloc _) (fun _ => ⟨w.heap.size, rfl, ownsRow_lower (World.ownsRow_made w #[] 0 (Nat.le_refl _) (Nat.zero_le _) rfl) h.only.size⟩)⟩
  simp [fr3, putS, slotOf]
set_option maxRecDepth 100000 in
set_option maxHeartbeats 1600000 in
theorem st3_2 (w8 : World) (sb : Nat) (fa : Option Addr) (fc : Nat) (F C : List Nat) (xa : Option Addr) (xc : Nat) (X : List Nat) (ya : Option Addr) (yc : Nat) (Y : List Nat) (f : Nat → Value) (d8 : Ad8 w8 sb fa fc F C xa xc X ya yc Y f) (R : AdR) (Q : Exit → Act → World → Prop) (L : Nat → Bool) (s : Nat → Value) (w : World) (h : In3 w8 fa fc F C xa xc X ya yc Y R L s w) (_ : L 2 = false) (_ : ∀ j ∈ depsOf .any (opsR Tryz.f3 7) 2, L j = true) :
    wpOp Tryz.prog (opsR Tryz.f3 7) Q 2 (Inv3 w8 fa fc F C xa xc X ya yc Y f (upd L 2)) (fr3 f s) w := by
  have e8 := d8.e8
  refine wpOp_step (o := ?o) ?ho (fun K' hK' => ?_)
  case ho =>
    conv =>
      lhs
      whnf
      arg 1
      whnf
  unfold fr3
  go_simp
  refine hK' _ _ ⟨R, _, ?_, h.put 2 (by decide) (by decide) (by decide) (by decide) (by decide) (.inl (by decide)) _ (Only.refl _ _) rfl⟩
  simp [fr3, putS, slotOf, e8]
set_option maxRecDepth 100000 in
set_option maxHeartbeats 1600000 in
theorem st3_4 (w8 : World) (sb : Nat) (fa : Option Addr) (fc : Nat) (F C : List Nat) (xa : Option Addr) (xc : Nat) (X : List Nat) (ya : Option Addr) (yc : Nat) (Y : List Nat) (f : Nat → Value) (d8 : Ad8 w8 sb fa fc F C xa xc X ya yc Y f) (R : AdR) (Q : Exit → Act → World → Prop) (L : Nat → Bool) (s : Nat → Value) (w : World) (h : In3 w8 fa fc F C xa xc X ya yc Y R L s w) (_ : L 4 = false) (_ : ∀ j ∈ depsOf .any (opsR Tryz.f3 7) 4, L j = true) :
    wpOp Tryz.prog (opsR Tryz.f3 7) Q 4 (Inv3 w8 fa fc F C xa xc X ya yc Y f (upd L 4)) (fr3 f s) w := by
  have e9 := d8.e9
  refine wpOp_step (o := ?o) ?ho (fun K' hK' => ?_)
  case ho =>
    conv =>
      lhs
      whnf
      arg 1
      whnf
  unfold fr3
  go_simp
  refine hK' _ _ ⟨R, _, ?_, h.put 4 (by decide) (by decide) (by decide) (by decide) (by decide) (.inl (by decide)) _ (Only.refl _ _) rfl⟩
  simp [fr3, putS, slotOf, e9]
set_option maxRecDepth 100000 in
set_option maxHeartbeats 1600000 in
theorem st3_3 (w8 : World) (sb : Nat) (fa : Option Addr) (fc : Nat) (F C : List Nat) (xa : Option Addr) (xc : Nat) (X : List Nat) (ya : Option Addr) (yc : Nat) (Y : List Nat) (f : Nat → Value) (d8 : Ad8 w8 sb fa fc F C xa xc X ya yc Y f) (R : AdR) (Q : Exit → Act → World → Prop) (L : Nat → Bool) (s : Nat → Value) (w : World) (h : In3 w8 fa fc F C xa xc X ya yc Y R L s w) (hL : L 3 = false) (hd : ∀ j ∈ depsOf .any (opsR Tryz.f3 7) 3, L j = true) :
    wpOp Tryz.prog (opsR Tryz.f3 7) Q 3 (Inv3 w8 fa fc F C xa xc X ya yc Y f (upd L 3)) (fr3 f s) w := by
  obtain ⟨i25, hi, hz0, hz1, hz2⟩ := info_parts info25
  obtain ⟨b, e51, hrow⟩ := h.ok 1 (by decide) (by decide) (hd 1 (of_decide_eq_true (by kernel_rfl))) hL
  have e52 : s 52 = .slice xa X.length xc := h.ok 2 (by decide) (by decide) (hd 2 (of_decide_eq_true (by kernel_rfl)))
  have hsrc : SrcIs w (s 52) 1 X.length (f64s X) := by rw [e52]; exact d8.hx.mono (fun _ _ hc => h.only.cell hc id)
  have hlx := d8.lx
  have h5 := h.late.1 hL
  have h6 := h.late.2.1 h5
  refine wpOp_step (o := ?o) ?ho (fun K' hK' => ?_)
  case ho =>
    conv =>
      lhs
      whnf
      arg 1
      whnf
  unfold fr3
  refine step_append_src w (by rfl) _ _ _ (by rfl) w8.heap.size 25 i25 _ 1 8 Tryz.underlying22 hi hz0 hz1 hz2 rfl (by omega) (s 51) 0 [] (by rfl) hrow (s 52) X.length (f64s X) (by rfl) hsrc (one_f64s X) (by unfold maxLen; omega) (by omega) h.only.size ?_
  intro v' w' hown hgr _
  rw [Nat.zero_add, List.nil_append] at hown
  obtain ⟨ta, tc, rfl⟩ := ownsRow_slice hown
  refine hK' _ _ ⟨R, _, ?_, h.grow 3 (.inl rfl) h6 (fun _ => h5) (fun e => by cases e) hL hrow (Only.grown hgr) (fun _ => ⟨ta, tc, rfl, hown⟩)⟩
  rfl
set_option maxRecDepth 100000 in
set_option maxHeartbeats 1600000 in
theorem st3_5 (w8 : World) (sb : Nat) (fa : Option Addr) (fc : Nat) (F C : List Nat) (xa : Option Addr) (xc : Nat) (X : List Nat) (ya : Option Addr) (yc : Nat) (Y : List Nat) (f : Nat → Value) (d8 : Ad8 w8 sb fa fc F C xa xc X ya yc Y f) (R : AdR) (Q : Exit → Act → World → Prop) (L : Nat → Bool) (s : Nat → Value) (w : World) (h : In3 w8 fa fc F C xa xc X ya yc Y R L s w) (hL : L 5 = false) (hd : ∀ j ∈ depsOf .any (opsR Tryz.f3 7) 5, L j = true) :
    wpOp Tryz.prog (opsR Tryz.f3 7) Q 5 (Inv3 w8 fa fc F C xa xc X ya yc Y f (upd L 5)) (fr3 f s) w := by
  obtain ⟨i25, hi, hz0, hz1, hz2⟩ := info_parts info25
  obtain ⟨xa', xc', e53, hrow⟩ := h.ok 3 (by decide) (by decide) (hd 3 (of_decide_eq_true (by kernel_rfl))) hL
  have e54 : s 54 = .slice ya Y.length yc := h.ok 4 (by decide) (by decide) (hd 4 (of_decide_eq_true (by kernel_rfl)))
  have hsrc : SrcIs w (s 54) 1 Y.length (f64s Y) := by rw [e54]; exact d8.hy.mono (fun _ _ hc => h.only.cell hc id)
  have hlx := d8.lx
  have hly := d8.ly
  have h3 := hd 3 (of_decide_eq_true (by kernel_rfl))
  have h6 := h.late.2.1 hL
  refine wpOp_step (o := ?o) ?ho (fun K' hK' => ?_)
  case ho =>
    conv =>
      lhs
      whnf
      arg 1
      whnf
  unfold fr3
  refine step_append_src w (by rfl) _ _ _ (by rfl) w8.heap.size 25 i25 _ 1 8 Tryz.underlying22 hi hz0 hz1 hz2 rfl (by omega) (s 53) X.length (f64s X) (by rfl) hrow (s 54) Y.length (f64s Y) (by rfl) hsrc (one_f64s Y) (by unfold maxLen; omega) (by omega) h.only.size ?_
  intro v' w' hown hgr _
  have hown' : w'.ownsRow w8.heap.size 25 1 v' (X ++ Y).length (f64s (X ++ Y)) := by rw [List.length_append]; unfold f64s; rw [List.map_append]; exact hown
  obtain ⟨ta, tc, rfl⟩ := ownsRow_slice hown'
  refine hK' _ _ ⟨R, _, ?_, h.grow 5 (.inr rfl) h6 (fun e => by cases e) (fun _ => h3) hL hrow (Only.grown hgr) (fun _ => ⟨ta, tc, rfl, hown'⟩)⟩
  rfl
set_option maxRecDepth 100000 in
set_option maxHeartbeats 1600000 in
theorem st3_7 (w8 : World) (sb : Nat) (fa : Option Addr) (fc : Nat) (F C : List Nat) (xa : Option Addr) (xc : Nat) (X : List Nat) (ya : Option Addr) (yc : Nat) (Y : List Nat) (f : Nat → Value) (_ : Ad8 w8 sb fa fc F C xa xc X ya yc Y f) (R : AdR) (Q : Exit → Act → World → Prop) (L : Nat → Bool) (s : Nat → Value) (w : World) (h : In3 w8 fa fc F C xa xc X ya yc Y R L s w) (_ : L 7 = false) (hd : ∀ j ∈ depsOf .any (opsR Tryz.f3 7) 7, L j = true) :
    wpOp Tryz.prog (opsR Tryz.f3 7) Q 7 (Inv3 w8 fa fc F C xa xc X ya yc Y f (upd L 7)) (fr3 f s) w := by
  have e56 : s 56 = (.tuple #[.agg (R.lit C (X ++ Y)).toArray, .bool true]) := h.ok 6 (by decide) (by decide) (hd 6 (of_decide_eq_true (by kernel_rfl)))
  have h6 := hd 6 (of_decide_eq_true (by kernel_rfl))
  refine wpOp_step (o := ?o) ?ho (fun K' hK' => ?_)
  case ho =>
    conv =>
      lhs
      whnf
      arg 1
      whnf
  unfold fr3
  go_simp
  refine hK' _ _ ⟨R, _, ?_, h.put 7 (by decide) (by decide) (by decide) (by decide) (by decide) (.inr (.inr h6)) _ (Only.refl _ _) rfl⟩
  simp [fr3, putS, slotOf, e56]
set_option maxRecDepth 100000 in
set_option maxHeartbeats 1600000 in
theorem st3_8 (w8 : World) (sb : Nat) (fa : Option Addr) (fc : Nat) (F C : List Nat) (xa : Option Addr) (xc : Nat) (X : List Nat) (ya : Option Addr) (yc : Nat) (Y : List Nat) (f : Nat → Value) (_ : Ad8 w8 sb fa fc F C xa xc X ya yc Y f) (R : AdR) (Q : Exit → Act → World → Prop) (L : Nat → Bool) (s : Nat → Value) (w : World) (h : In3 w8 fa fc F C xa xc X ya yc Y R L s w) (_ : L 8 = false) (hd : ∀ j ∈ depsOf .any (opsR Tryz.f3 7) 8, L j = true) :
    wpOp Tryz.prog (opsR Tryz.f3 7) Q 8 (Inv3 w8 fa fc F C xa xc X ya yc Y f (upd L 8)) (fr3 f s) w := by
  have e49 : s 49 = (.tuple #[.agg (R.lit C (X ++ Y)).toArray, .bool true]) := h.ok 7 (by decide) (by decide) (hd 7 (of_decide_eq_true (by kernel_rfl)))
  have h6 : L 6 = true := by
    cases hl6 : L 6 with
    | true => rfl
    | false => have hh := h.late.2.2 hl6; rw [hd 7 (of_decide_eq_true (by kernel_rfl))] at hh; simp at hh
  refine wpOp_step (o := ?o) ?ho (fun K' hK' => ?_)
  case ho =>
    conv =>
      lhs
      whnf
      arg 1
      whnf
  unfold fr3
  go_simp
  refine hK' _ _ ⟨R, _, ?_, h.put 8 (by decide) (by decide) (by decide) (by decide) (by decide) (.inr (.inr h6)) _ (Only.refl _ _) rfl⟩
  simp [fr3, putS, slotOf, e49]
set_option maxRecDepth 100000 in
set_option maxHeartbeats 1600000 in
theorem st3_9 (w8 : World) (sb : Nat) (fa : Option Addr) (fc : Nat) (F C : List Nat) (xa : Option Addr) (xc : Nat) (X : List Nat) (ya : Option Addr) (yc : Nat) (Y : List Nat) (f : Nat → Value) (_ : Ad8 w8 sb fa fc F C xa xc X ya yc Y f) (R : AdR) (Q : Exit → Act → World → Prop) (L : Nat → Bool) (s : Nat → Value) (w : World) (h : In3 w8 fa fc F C xa xc X ya yc Y R L s w) (_ : L 9 = false) (hd : ∀ j ∈ depsOf .any (opsR Tryz.f3 7) 9, L j = true) :
    wpOp Tryz.prog (opsR Tryz.f3 7) Q 9 (Inv3 w8 fa fc F C xa xc X ya yc Y f (upd L 9)) (fr3 f s) w := by
  have e49 : s 49 = (.tuple #[.agg (R.lit C (X ++ Y)).toArray, .bool true]) := h.ok 7 (by decide) (by decide) (hd 7 (of_decide_eq_true (by kernel_rfl)))
  have h6 : L 6 = true := by
    cases hl6 : L 6 with
    | true => rfl
    | false => have hh := h.late.2.2 hl6; rw [hd 7 (of_decide_eq_true (by kernel_rfl))] at hh; simp at hh
  refine wpOp_step (o := ?o) ?ho (fun K' hK' => ?_)
  case ho =>
    conv =>
      lhs
      whnf
      arg 1
      whnf
  unfold fr3
  go_simp
  refine hK' _ _ ⟨R, _, ?_, h.put 9 (by decide) (by decide) (by decide) (by decide) (by decide) (.inr (.inr h6)) _ (Only.refl _ _) rfl⟩
  simp [fr3, putS, slotOf, e49]
set_option maxRecDepth 100000 in
set_option maxHeartbeats 1600000 in
theorem st3_10 (w8 : World) (sb : Nat) (fa : Option Addr) (fc : Nat) (F C : List Nat) (xa : Option Addr) (xc : Nat) (X : List Nat) (ya : Option Addr) (yc : Nat) (Y : List Nat) (f : Nat → Value) (_ : Ad8 w8 sb fa fc F C xa xc X ya yc Y f) (R : AdR) (Q : Exit → Act → World → Prop) (L : Nat → Bool) (s : Nat → Value) (w : World) (h : In3 w8 fa fc F C xa xc X ya yc Y R L s w) (hL : L 10 = false) (_ : ∀ j ∈ depsOf .any (opsR Tryz.f3 7) 10, L j = true) :
    wpOp Tryz.prog (opsR Tryz.f3 7) Q 10 (Inv3 w8 fa fc F C xa xc X ya yc Y f (upd L 10)) (fr3 f s) w := by
  have h11 := h.al hL
  refine wpOp_step (o := ?o) ?ho (fun K' hK' => ?_)
  case ho =>
    conv =>
      lhs
      whnf
      arg 1
      whnf
  unfold fr3
  go_simp
  refine hK' _ _ ⟨R, _, ?_, h.put 10 (by decide) (by decide) (by decide) (by decide) (by decide) (.inr (.inl rfl)) _ ((Only.refl _ _).alloc _) ⟨w.heap.size, rfl, h.only.size, fun _ => get_new _ _ _ rfl, fun hl => by rw [h11] at hl; cases hl⟩⟩
  simp [fr3, putS, slotOf]
set_option maxRecDepth 100000 in
set_option maxHeartbeats 1600000 in
theorem st3_12 (w8 : World) (sb : Nat) (fa : Option Addr) (fc : Nat) (F C : List Nat) (xa : Option Addr) (xc : Nat) (X : List Nat) (ya : Option Addr) (yc : Nat) (Y : List Nat) (f : Nat → Value) (_ : Ad8 w8 sb fa fc F C xa xc X ya yc Y f) (R : AdR) (Q : Exit → Act → World → Prop) (L : Nat → Bool) (s : Nat → Value) (w : World) (h : In3 w8 fa fc F C xa xc X ya yc Y R L s w) (_ : L 12 = false) (hd : ∀ j ∈ depsOf .any (opsR Tryz.f3 7) 12, L j = true) :
    wpOp Tryz.prog (opsR Tryz.f3 7) Q 12 (Inv3 w8 fa fc F C xa xc X ya yc Y f (upd L 12)) (fr3 f s) w := by
  have e58 : s 58 = .bool true := h.ok 9 (by decide) (by decide) (hd 9 (of_decide_eq_true (by kernel_rfl)))
  have h6 : L 6 = true := by
    cases hl6 : L 6 with
    | true => rfl
    | false => have hh := h.late.2.2 hl6; rw [hd 9 (of_decide_eq_true (by kernel_rfl))] at hh; simp at hh
  refine wpOp_step (o := ?o) ?ho (fun K' hK' => ?_)
  case ho =>
    conv =>
      lhs
      whnf
      arg 1
      whnf
  unfold fr3
  go_simp
  refine hK' _ _ ⟨R, _, ?_, h.put 12 (by decide) (by decide) (by decide) (by decide) (by decide) (.inr (.inr h6)) _ (Only.refl _ _) rfl⟩
  simp [fr3, putS, slotOf, e58]
end Go.Proofs.YtebjclmbacmilaaGreatDoor

namespace Go.Proofs.YtebjclmbacmilaaGreatDoor
open Go.RowKit

set_option maxRecDepth 100000 in
set_option maxHeartbeats 1600000 in
theorem st3_6 (w8 : World) (sb : Nat) (fa : Option Addr) (fc : Nat) (F C : List Nat) (xa : Option Addr) (xc : Nat) (X : List Nat) (ya : Option Addr) (yc : Nat) (Y : List Nat) (f : Nat → Value) (d8 : Ad8 w8 sb fa fc F C xa xc X ya yc Y f) (R : AdR) (Q : Exit → Act → World → Prop) (L : Nat → Bool) (s : Nat → Value) (w : World) (h : In3 w8 fa fc F C xa xc X ya yc Y R L s w) (hL : L 6 = false) (hd : ∀ j ∈ depsOf .any (opsR Tryz.f3 7) 6, L j = true) :
    wpOp Tryz.prog (opsR Tryz.f3 7) Q 6 (Inv3 w8 fa fc F C xa xc X ya yc Y f (upd L 6)) (fr3 f s) w := by
  have e50 : s 50 = .agg #[.slice fa F.length fc, .float .f64 0, .float .f64 0, .int .u32 0, .int .i64 0, .float .f64 0, .int .i64 0, .int .i64 0] := h.ok 0 (by decide) (by decide) (hd 0 (of_decide_eq_true (by kernel_rfl)))
  obtain ⟨ta, tc, e55, hrow⟩ : ∃ ta tc, s 55 = .slice ta (X ++ Y).length tc ∧ w.ownsRow w8.heap.size 25 1 (s 55) (X ++ Y).length (f64s (X ++ Y)) := h.ok 5 (by decide) (by decide) (hd 5 (of_decide_eq_true (by kernel_rfl))) hL
  rw [e55] at hrow
  have h5 := hd 5 (of_decide_eq_true (by kernel_rfl))
  have hcell := (cells_of_owns hrow rfl).1
  have hobs := d8.obs ta tc w h.only hcell
  obtain ⟨n, hn⟩ : ∃ n, n = (X ++ Y).length := ⟨_, rfl⟩
  rw [← hn] at hobs e55
  have HOBS := Lib.hid hobs
  clear hobs hn hrow hcell
  refine wpOp_step (o := ?o) ?ho (fun K' hK' => ?_)
  case ho =>
    conv =>
      lhs
      whnf
      arg 1
      whnf
  unfold fr3
  go_simp
  go_at_call 15
  refine HOBS.out.mono ?_
  rintro e' w' ⟨R', rfl, hs, hb, hg, ho⟩
  have HH := Lib.hid (h.call hL h5 ho hs hb hg)
  clear hs hb hg ho HOBS
  go_simp
  refine hK' _ _ ⟨R', _, ?_, HH.out⟩
  simp [fr3, putS, e50, e55]
set_option maxRecDepth 100000 in
set_option maxHeartbeats 1600000 in
theorem st3_11 (w8 : World) (sb : Nat) (fa : Option Addr) (fc : Nat) (F C : List Nat) (xa : Option Addr) (xc : Nat) (X : List Nat) (ya : Option Addr) (yc : Nat) (Y : List Nat) (f : Nat → Value) (_ : Ad8 w8 sb fa fc F C xa xc X ya yc Y f) (R : AdR) (Q : Exit → Act → World → Prop) (L : Nat → Bool) (s : Nat → Value) (w : World) (h : In3 w8 fa fc F C xa xc X ya yc Y R L s w) (hL : L 11 = false) (hd : ∀ j ∈ depsOf .any (opsR Tryz.f3 7) 11, L j = true) :
    wpOp Tryz.prog (opsR Tryz.f3 7) Q 11 (Inv3 w8 fa fc F C xa xc X ya yc Y f (upd L 11)) (fr3 f s) w := by
  have h3 := hd 3 (of_decide_eq_true (by kernel_rfl))
  have h5 := hd 5 (of_decide_eq_true (by kernel_rfl))
  have h6 := hd 6 (of_decide_eq_true (by kernel_rfl))
  have h10 := hd 10 (of_decide_eq_true (by kernel_rfl))
  have e57 : s 57 = .agg #[.int .u64 (X ++ Y).length, .float .f64 R.s, .slice R.qa C.length R.qc, .int .i64 0, .bool false, .int .i32 0, .float .f64 0, .int .u64 0, .slice none 0 0, .slice none 0 0, .slice (some ⟨R.b1, 0, none⟩) 0 0, .slice (some ⟨R.b2, 0, none⟩) 0 0, .slice none 0 0] := h.ok 8 (by decide) (by decide) (hd 8 (of_decide_eq_true (by kernel_rfl)))
  obtain ⟨z, e14, hz, hst⟩ := h.store h3 h5 h6 h10 hL
  obtain ⟨n, hn⟩ : ∃ n, n = (X ++ Y).length := ⟨_, rfl⟩
  rw [← hn] at e57 hst
  have HST := Lib.hid hst
  clear hst hn
  have zf := hz.free
  have z0 := hz.cell (i := 0) rfl
  have z1 := hz.cell (i := 1) rfl
  have z2 := hz.cell (i := 2) rfl
  have z3 := hz.cell (i := 3) rfl
  have z4 := hz.cell (i := 4) rfl
  have z5 := hz.cell (i := 5) rfl
  have z6 := hz.cell (i := 6) rfl
  have z7 := hz.cell (i := 7) rfl
  have z8 := hz.cell (i := 8) rfl
  have z9 := hz.cell (i := 9) rfl
  have z10 := hz.cell (i := 10) rfl
  have z11 := hz.cell (i := 11) rfl
  have z12 := hz.cell (i := 12) rfl
  refine wpOp_step (o := ?o) ?ho (fun K' hK' => ?_)
  case ho =>
    conv =>
      lhs
      whnf
      arg 1
      whnf
  unfold fr3
  go_simp
  exact hK' _ _ ⟨R, s, by simp [fr3, e14, e57], HST.out⟩
theorem step3 (w8 : World) (sb : Nat) (fa : Option Addr) (fc : Nat) (F C : List Nat) (xa : Option Addr) (xc : Nat) (X : List Nat) (ya : Option Addr) (yc : Nat) (Y : List Nat) (f : Nat → Value) (d8 : Ad8 w8 sb fa fc F C xa xc X ya yc Y f) (Q : Exit → Act → World → Prop) :
    ∀ L a w i, Inv3 w8 fa fc F C xa xc X ya yc Y f L a w → i < (opsR Tryz.f3 7).size → L i = false → (∀ j ∈ depsOf .any (opsR Tryz.f3 7) i, L j = true) → wpOp Tryz.prog (opsR Tryz.f3 7) Q i (Inv3 w8 fa fc F C xa xc X ya yc Y f (upd L i)) a w := by
  rintro L a w i ⟨R, s, rfl, h⟩ hi hL hd
  rw [size3] at hi
  have hc : i = 0 ∨ i = 1 ∨ i = 2 ∨ i = 3 ∨ i = 4 ∨ i = 5 ∨ i = 6 ∨ i = 7 ∨ i = 8 ∨ i = 9 ∨ i = 10 ∨ i = 11 ∨ i = 12 := by omega
  rcases hc with rfl | rfl | rfl | rfl | rfl | rfl | rfl | rfl | rfl | rfl | rfl | rfl | rfl
  · exact st3_0 w8 sb fa fc F C xa xc X ya yc Y f d8 R Q L s w h hL hd
  · exact st3_1 w8 sb fa fc F C xa xc X ya yc Y f d8 R Q L s w h hL hd
  · exact st3_2 w8 sb fa fc F C xa xc X ya yc Y f d8 R Q L s w h hL hd
  · exact st3_3 w8 sb fa fc F C xa xc X ya yc Y f d8 R Q L s w h hL hd
  · exact st3_4 w8 sb fa fc F C xa xc X ya yc Y f d8 R Q L s w h hL hd
  · exact st3_5 w8 sb fa fc F C xa xc X ya yc Y f d8 R Q L s w h hL hd
  · exact st3_6 w8 sb fa fc F C xa xc X ya yc Y f d8 R Q L s w h hL hd
  · exact st3_7 w8 sb fa fc F C xa xc X ya yc Y f d8 R Q L s w h hL hd
  · exact st3_8 w8 sb fa fc F C xa xc X ya yc Y f d8 R Q L s w h hL hd
  · exact st3_9 w8 sb fa fc F C xa xc X ya yc Y f d8 R Q L s w h hL hd
  · exact st3_10 w8 sb fa fc F C xa xc X ya yc Y f d8 R Q L s w h hL hd
  · exact st3_11 w8 sb fa fc F C xa xc X ya yc Y f d8 R Q L s w h hL hd
  · exact st3_12 w8 sb fa fc F C xa xc X ya yc Y f d8 R Q L s w h hL hd
/-- The region. -/
theorem region7_adds (w8 : World) (sb : Nat) (fa : Option Addr) (fc : Nat) (F C : List Nat) (xa : Option Addr) (xc : Nat) (X : List Nat) (ya : Option Addr) (yc : Nat) (Y : List Nat) (a0 : Act) (d8 : Ad8 w8 sb fa fc F C xa xc X ya yc Y (fun j => a0.tmps.getD j undef)) (h0 : a0 = fr3 (fun j => a0.tmps.getD j undef) (fun j => a0.tmps.getD j undef)) (Q : Exit → Act → World → Prop)
    (hQ : ∀ (s : Nat → Value) (w : World) (R : AdR) (z : Nat), s 14 = .pointer (some ⟨z, 0, none⟩) → s 15 = .bool true → IsBlock w z (R.lit C (X ++ Y)) → SumTo (X ++ Y) R.s → BkIn C (X ++ Y) R.qa w → Only (fun _ => False) w8 w → Q .normal (fr3 (fun j => a0.tmps.getD j undef) s) w) :
    (Code.region 7 (opsR Tryz.f3 7) true).wp Tryz.prog Q a0 w8 := by
  refine region_inv (by kernel_rfl) (Inv3 w8 fa fc F C xa xc X ya yc Y (fun j => a0.tmps.getD j undef)) early3 ?_ (step3 w8 sb fa fc F C xa xc X ya yc Y _ d8 Q) ?_
  · exact ⟨⟨0, none, 0, 0, 0⟩, _, h0, (Only.refl _ _).drew, (fun _ _ _ h => by cases h), (fun h => by cases h), fun _ => rfl, fun _ => rfl, fun _ => rfl, fun _ => ⟨rfl, rfl, rfl, rfl, rfl⟩⟩
  · rintro L a w ⟨R, s, rfl, h⟩ hall
    have hl : ∀ i, i < 13 → L i = true := fun i hi => hall i (by rw [size3]; exact hi)
    obtain ⟨z, h1, _, _, h4⟩ := h.ok 10 (by decide) (by decide) (hl 10 (by decide))
    obtain ⟨a, b, _⟩ := h.res (hl 6 (by decide))
    exact hQ s w R z h1 (h.ok 12 (by decide) (by decide) (hl 12 (by decide))) (h4 (hl 11 (by decide))) a b h.only
end Go.Proofs.YtebjclmbacmilaaGreatDoor
