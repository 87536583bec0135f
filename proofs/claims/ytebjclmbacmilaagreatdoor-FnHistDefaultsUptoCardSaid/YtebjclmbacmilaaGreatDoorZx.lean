/- histFrom of a written classic histogram without exemplars: its region draws its order; an invariant over the operations that have run. Conditions: as stated. (Printed by from.py.) -/
import Derived.Test.YtebjclmbacmilaaGreatDoorZw
import Derived.Test.YtebjclmbacmilaaGreatDoorIw
namespace Go.Proofs.YtebjclmbacmilaaGreatDoor
open Go.RowKit

def opsAt (f : Func) : Array Oper := match f.body with | some (.seq _ (.seq (.region _ ops _) _)) => ops | _ => #[]
theorem early65 : early .any (opsAt Tryz.f65) = true := by kernel_rfl
theorem size65 : (opsAt Tryz.f65).size = 36 := by kernel_rfl

section
variable (w0 : World) (cnt sum : Nat) (la : Option Addr) (lc : Nat) (created : Int) (l : List BP)
/-- What a slot holds behind its operation. -/
def ok65 (w0 : World) (cnt sum : Nat) (la : Option Addr) (lc : Nat) (created : Int) (l : List BP) (j : Nat) (v : Value) (w : World) : Prop :=
  match j with
  | 3 => v = .pointer (some ⟨w0.heap.size, 0, none⟩)
  | 4 => v = .int .u64 cnt
  | 5 => v = .pointer (some ⟨w0.heap.size, 1, none⟩)
  | 6 => v = .float .f64 sum
  | 7 => v = .pointer (some ⟨w0.heap.size, 2, none⟩)
  | 8 => v = .slice la l.length lc
  | 10 => v = .pointer (some ⟨w0.heap.size, 3, none⟩)
  | 11 => v = .int .i64 created
  | 12 => v = .pointer (some ⟨w0.heap.size, 4, none⟩)
  | 13 => v = .bool false
  | 14 => v = .pointer (some ⟨w0.heap.size, 5, none⟩)
  | 15 => v = .int .i32 0
  | 16 => v = .pointer (some ⟨w0.heap.size, 6, none⟩)
  | 17 => v = .float .f64 0
  | 18 => v = .pointer (some ⟨w0.heap.size, 7, none⟩)
  | 19 => v = .int .u64 0
  | 20 => v = .pointer (some ⟨w0.heap.size, 8, none⟩)
  | 21 => v = .slice none 0 0
  | 23 => v = .pointer (some ⟨w0.heap.size, 9, none⟩)
  | 24 => v = .slice none 0 0
  | 27 => v = .pointer (some ⟨w0.heap.size, 10, none⟩)
  | 28 => v = .slice none 0 0
  | 31 => v = .pointer (some ⟨w0.heap.size, 11, none⟩)
  | 32 => v = .slice none 0 0
  | 34 => v = .pointer (some ⟨w0.heap.size, 12, none⟩)
  | 35 => v = .slice none 0 0
  | 9 => ∃ qa qc, v = .slice qa l.length qc ∧ w.ownsRow (w0.heap.size + 2) 43 6 v l.length (bRow l)
  | 22 => v = .slice none 0 0
  | 25 => v = .slice none 0 0
  | 36 => v = .slice none 0 0
  | 26 => ∃ b, v = .slice (some ⟨b, 0, none⟩) 0 0
  | 29 => ∃ b, v = .slice (some ⟨b, 0, none⟩) 0 0
  | 30 => ∃ b, v = .slice (some ⟨b, 0, none⟩) 0 0
  | 33 => ∃ b, v = .slice (some ⟨b, 0, none⟩) 0 0
  | 37 => ∃ qa qc b1 b2, v = .agg #[.int .u64 cnt, .float .f64 sum, .slice qa l.length qc, .int .i64 created, .bool false, .int .i32 0, .float .f64 0, .int .u64 0, .slice none 0 0, .slice none 0 0, .slice (some ⟨b1, 0, none⟩) 0 0, .slice (some ⟨b2, 0, none⟩) 0 0, .slice none 0 0] ∧ w.ownsRow (w0.heap.size + 2) 43 6 (.slice qa l.length qc) l.length (bRow l)
  | _ => True
theorem ok65_mono {j : Nat} {v : Value} {w w' : World} {S : Nat → Prop} (h : ok65 w0 cnt sum la lc created l j v w) (ho : Only S w w') (hS : ∀ k, S k → k < w0.heap.size + 2) : ok65 w0 cnt sum la lc created l j v w' := by
  unfold ok65 at h ⊢
  split at h <;> first
    | exact h
    | (obtain ⟨qa, qc, h1, h2⟩ := h; exact ⟨qa, qc, h1, ho.ownsRow h2 (fun k hk hs => by have := (h2.lt k hk).1; have := hS k hs; omega)⟩)
    | (obtain ⟨qa, qc, b1, b2, h1, h2⟩ := h; exact ⟨qa, qc, b1, b2, h1, ho.ownsRow h2 (fun k hk hs => by have := (h2.lt k hk).1; have := hS k hs; omega)⟩)
/-- The frame. -/
def fr65 (w0 : World) (x : Value) (s : Nat → Value) : Act := ⟨#[x, .pointer (some ⟨w0.heap.size, 0, none⟩), .pointer (some ⟨w0.heap.size + 1, 0, none⟩), s 3, s 4, s 5, s 6, s 7, s 8, s 9, s 10, s 11, s 12, s 13, s 14, s 15, s 16, s 17, s 18, s 19, s 20, s 21, s 22, s 23, s 24, s 25, s 26, s 27, s 28, s 29, s 30, s 31, s 32, s 33, s 34, s 35, s 36, s 37], []⟩
def putS (s : Nat → Value) (j : Nat) (v : Value) : Nat → Value := fun k => if k = j then v else s k
/-- Between two operations. -/
structure In65 (w0 : World) (cnt sum : Nat) (la : Option Addr) (lc : Nat) (created : Int) (l : List BP) (L : Nat → Bool) (s : Nat → Value) (w : World) : Prop where
  blk : IsBlock w w0.heap.size (hVals cnt sum (.slice la l.length lc) created)
  only : Only (fun _ => False) w0 w
  size : w0.heap.size + 2 ≤ w.heap.size
  ok : ∀ i, i < 35 → L i = true → ok65 w0 cnt sum la lc created l (i + 3) (s (i + 3)) w
  res0 : L 35 = false → IsBlock w (w0.heap.size + 1) (hVals 0 0 (.slice none 0 0) 0)
  res1 : L 35 = true → ∃ qa qc b1 b2, IsBlock w (w0.heap.size + 1) [.int .u64 cnt, .float .f64 sum, .slice qa l.length qc, .int .i64 created, .bool false, .int .i32 0, .float .f64 0, .int .u64 0, .slice none 0 0, .slice none 0 0, .slice (some ⟨b1, 0, none⟩) 0 0, .slice (some ⟨b2, 0, none⟩) 0 0, .slice none 0 0] ∧ w.ownsRow (w0.heap.size + 2) 43 6 (.slice qa l.length qc) l.length (bRow l)
def Inv65 (w0 : World) (cnt sum : Nat) (la : Option Addr) (lc : Nat) (created : Int) (l : List BP) (x : Value) (L : Nat → Bool) (a : Act) (w : World) : Prop :=
  ∃ s, a = fr65 w0 x s ∧ In65 w0 cnt sum la lc created l L s w
theorem In65.put {w0 : World} {cnt sum : Nat} {la : Option Addr} {lc : Nat} {created : Int} {l : List BP} {L : Nat → Bool} {s : Nat → Value} {w w' : World} (h : In65 w0 cnt sum la lc created l L s w)
    (i : Nat) (hi : i < 35) (v : Value) (ho : Only (fun _ => False) w w') (hv : ok65 w0 cnt sum la lc created l (i + 3) v w') : In65 w0 cnt sum la lc created l (upd L i) (putS s (i + 3) v) w' where
  blk := ho.isBlock h.blk id
  only := h.only.trans ho
  size := Nat.le_trans h.size ho.size
  ok := fun k hk hL => by
    by_cases e : k = i
    · subst e
      have : putS s (k + 3) v (k + 3) = v := if_pos rfl
      rw [this]; exact hv
    · have : putS s (i + 3) v (k + 3) = s (k + 3) := if_neg (by omega)
      rw [this]
      rw [upd_ne L e] at hL
      exact ok65_mono _ _ _ _ _ _ _ (h.ok k hk hL) ho (fun _ h => h.elim)
  res0 := fun hL => by
    rw [upd_ne L (by omega)] at hL
    exact ho.isBlock (h.res0 hL) id
  res1 := fun hL => by
    rw [upd_ne L (by omega)] at hL
    obtain ⟨qa, qc, b1, b2, h1, h2⟩ := h.res1 hL
    exact ⟨qa, qc, b1, b2, ho.isBlock h1 id, ho.ownsRow h2 (fun _ _ => id)⟩
end

/-- What 13 stores make of a block. -/
def put65 (w : World) (b : Nat) (v0 v1 v2 v3 v4 v5 v6 v7 v8 v9 v10 v11 v12 : Value) : World := (((((((((((((w.setCell ⟨b, 0, none⟩ v0).setCell ⟨b, 1, none⟩ v1).setCell ⟨b, 2, none⟩ v2).setCell ⟨b, 3, none⟩ v3).setCell ⟨b, 4, none⟩ v4).setCell ⟨b, 5, none⟩ v5).setCell ⟨b, 6, none⟩ v6).setCell ⟨b, 7, none⟩ v7).setCell ⟨b, 8, none⟩ v8).setCell ⟨b, 9, none⟩ v9).setCell ⟨b, 10, none⟩ v10).setCell ⟨b, 11, none⟩ v11).setCell ⟨b, 12, none⟩ v12)
theorem stored_blk {w : World} {b : Nat} (h : IsBlock w b (hVals 0 0 (.slice none 0 0) 0)) (v0 v1 v2 v3 v4 v5 v6 v7 v8 v9 v10 v11 v12 : Value) : IsBlock (put65 w b v0 v1 v2 v3 v4 v5 v6 v7 v8 v9 v10 v11 v12) b [v0, v1, v2, v3, v4, v5, v6, v7, v8, v9, v10, v11, v12] := (((((((((((((h.set 0 _).set 1 _).set 2 _).set 3 _).set 4 _).set 5 _).set 6 _).set 7 _).set 8 _).set 9 _).set 10 _).set 11 _).set 12 _)
theorem stored_only {w0 w : World} {b : Nat} (h : Only (fun _ => False) w0 w) (hb : w0.heap.size ≤ b) (v0 v1 v2 v3 v4 v5 v6 v7 v8 v9 v10 v11 v12 : Value) : Only (fun _ => False) w0 (put65 w b v0 v1 v2 v3 v4 v5 v6 v7 v8 v9 v10 v11 v12) := (((((((((((((h.setCell (.inr hb) _).setCell (.inr hb) _).setCell (.inr hb) _).setCell (.inr hb) _).setCell (.inr hb) _).setCell (.inr hb) _).setCell (.inr hb) _).setCell (.inr hb) _).setCell (.inr hb) _).setCell (.inr hb) _).setCell (.inr hb) _).setCell (.inr hb) _).setCell (.inr hb) _)
theorem stored_one (w : World) (b : Nat) (v0 v1 v2 v3 v4 v5 v6 v7 v8 v9 v10 v11 v12 : Value) : Only (fun k => k = b) w (put65 w b v0 v1 v2 v3 v4 v5 v6 v7 v8 v9 v10 v11 v12) := ((((((((((((((Only.refl (fun k => k = b) w).setCell (.inl rfl) _).setCell (.inl rfl) _).setCell (.inl rfl) _).setCell (.inl rfl) _).setCell (.inl rfl) _).setCell (.inl rfl) _).setCell (.inl rfl) _).setCell (.inl rfl) _).setCell (.inl rfl) _).setCell (.inl rfl) _).setCell (.inl rfl) _).setCell (.inl rfl) _).setCell (.inl rfl) _)
theorem stored_row {w : World} {b base e s n : Nat} {x : Value} {xs : List Value} (h : w.ownsRow base e s x n xs) (hb : b < base) (v0 v1 v2 v3 v4 v5 v6 v7 v8 v9 v10 v11 v12 : Value) : (put65 w b v0 v1 v2 v3 v4 v5 v6 v7 v8 v9 v10 v11 v12).ownsRow base e s x n xs := (ownsRow_set (ownsRow_set (ownsRow_set (ownsRow_set (ownsRow_set (ownsRow_set (ownsRow_set (ownsRow_set (ownsRow_set (ownsRow_set (ownsRow_set (ownsRow_set (ownsRow_set h _ _ hb) _ _ hb) _ _ hb) _ _ hb) _ _ hb) _ _ hb) _ _ hb) _ _ hb) _ _ hb) _ _ hb) _ _ hb) _ _ hb) _ _ hb)
theorem In65.stored {w0 : World} {cnt sum : Nat} {la : Option Addr} {lc : Nat} {created : Int} {l : List BP} {L : Nat → Bool} {s : Nat → Value} {w : World} (h : In65 w0 cnt sum la lc created l L s w)
    (qa : Option Addr) (qc b1 b2 : Nat) (hz : IsBlock w (w0.heap.size + 1) (hVals 0 0 (.slice none 0 0) 0)) (hq : w.ownsRow (w0.heap.size + 2) 43 6 (.slice qa l.length qc) l.length (bRow l)) :
    In65 w0 cnt sum la lc created l (upd L 35) s (put65 w (w0.heap.size + 1) (.int .u64 cnt) (.float .f64 sum) (.slice qa l.length qc) (.int .i64 created) (.bool false) (.int .i32 0) (.float .f64 0) (.int .u64 0) (.slice none 0 0) (.slice none 0 0) (.slice (some ⟨b1, 0, none⟩) 0 0) (.slice (some ⟨b2, 0, none⟩) 0 0) (.slice none 0 0)) where
  blk := (stored_one w _ _ _ _ _ _ _ _ _ _ _ _ _ _).isBlock h.blk (fun e => by omega)
  only := stored_only h.only (Nat.le_succ _) _ _ _ _ _ _ _ _ _ _ _ _ _
  size := Nat.le_trans h.size (stored_one w _ _ _ _ _ _ _ _ _ _ _ _ _ _).size
  ok := fun k hk hL => by
    rw [upd_ne L (by omega)] at hL
    exact ok65_mono _ _ _ _ _ _ _ (h.ok k hk hL) (stored_one w _ _ _ _ _ _ _ _ _ _ _ _ _ _) (fun k e => by omega)
  res0 := fun hL => by rw [upd_self] at hL; cases hL
  res1 := fun _ => ⟨qa, qc, b1, b2, stored_blk hz _ _ _ _ _ _ _ _ _ _ _ _ _, stored_row hq (by omega) _ _ _ _ _ _ _ _ _ _ _ _ _⟩

set_option maxRecDepth 100000 in
set_option maxHeartbeats 1600000 in
theorem st65_0 (w0 : World) (cnt sum : Nat) (la : Option Addr) (lc : Nat) (created : Int) (l : List BP) (x : Value) (Q : Exit → Act → World → Prop) (L : Nat → Bool) (s : Nat → Value) (w : World) (h : In65 w0 cnt sum la lc created l L s w) (_ : L 0 = false) (_ : ∀ j ∈ depsOf .any (opsAt Tryz.f65) 0, L j = true) :
    wpOp Tryz.prog (opsAt Tryz.f65) Q 0 (Inv65 w0 cnt sum la lc created l x (upd L 0)) (fr65 w0 x s) w := by
  simp only [opsAt, Tryz.f65]
  refine wpOp_step rfl (fun K' hK' => ?_)
  unfold fr65
  go_simp
  exact hK' _ _ ⟨_, rfl, h.put 0 (by decide) _ (Only.refl _ _) rfl⟩
set_option maxRecDepth 100000 in
set_option maxHeartbeats 1600000 in
theorem st65_1 (w0 : World) (cnt sum : Nat) (la : Option Addr) (lc : Nat) (created : Int) (l : List BP) (x : Value) (Q : Exit → Act → World → Prop) (L : Nat → Bool) (s : Nat → Value) (w : World) (h : In65 w0 cnt sum la lc created l L s w) (_ : L 1 = false) (hd : ∀ j ∈ depsOf .any (opsAt Tryz.f65) 1, L j = true) :
    wpOp Tryz.prog (opsAt Tryz.f65) Q 1 (Inv65 w0 cnt sum la lc created l x (upd L 1)) (fr65 w0 x s) w := by
  have c := h.blk.cell (i := 0) rfl
  have e : s 3 = .pointer (some ⟨w0.heap.size, 0, none⟩) := h.ok 0 (by decide) (hd 0 (of_decide_eq_true (by kernel_rfl)))
  simp only [opsAt, Tryz.f65]
  refine wpOp_step rfl (fun K' hK' => ?_)
  unfold fr65
  go_simp
  refine hK' _ _ ⟨_, ?_, h.put 1 (by decide) _ (Only.refl _ _) rfl⟩
  simp [fr65, putS, e]
set_option maxRecDepth 100000 in
set_option maxHeartbeats 1600000 in
theorem st65_2 (w0 : World) (cnt sum : Nat) (la : Option Addr) (lc : Nat) (created : Int) (l : List BP) (x : Value) (Q : Exit → Act → World → Prop) (L : Nat → Bool) (s : Nat → Value) (w : World) (h : In65 w0 cnt sum la lc created l L s w) (_ : L 2 = false) (_ : ∀ j ∈ depsOf .any (opsAt Tryz.f65) 2, L j = true) :
    wpOp Tryz.prog (opsAt Tryz.f65) Q 2 (Inv65 w0 cnt sum la lc created l x (upd L 2)) (fr65 w0 x s) w := by
  simp only [opsAt, Tryz.f65]
  refine wpOp_step rfl (fun K' hK' => ?_)
  unfold fr65
  go_simp
  exact hK' _ _ ⟨_, rfl, h.put 2 (by decide) _ (Only.refl _ _) rfl⟩
set_option maxRecDepth 100000 in
set_option maxHeartbeats 1600000 in
theorem st65_3 (w0 : World) (cnt sum : Nat) (la : Option Addr) (lc : Nat) (created : Int) (l : List BP) (x : Value) (Q : Exit → Act → World → Prop) (L : Nat → Bool) (s : Nat → Value) (w : World) (h : In65 w0 cnt sum la lc created l L s w) (_ : L 3 = false) (hd : ∀ j ∈ depsOf .any (opsAt Tryz.f65) 3, L j = true) :
    wpOp Tryz.prog (opsAt Tryz.f65) Q 3 (Inv65 w0 cnt sum la lc created l x (upd L 3)) (fr65 w0 x s) w := by
  have c := h.blk.cell (i := 1) rfl
  have e : s 5 = .pointer (some ⟨w0.heap.size, 1, none⟩) := h.ok 2 (by decide) (hd 2 (of_decide_eq_true (by kernel_rfl)))
  simp only [opsAt, Tryz.f65]
  refine wpOp_step rfl (fun K' hK' => ?_)
  unfold fr65
  go_simp
  refine hK' _ _ ⟨_, ?_, h.put 3 (by decide) _ (Only.refl _ _) rfl⟩
  simp [fr65, putS, e]
set_option maxRecDepth 100000 in
set_option maxHeartbeats 1600000 in
theorem st65_4 (w0 : World) (cnt sum : Nat) (la : Option Addr) (lc : Nat) (created : Int) (l : List BP) (x : Value) (Q : Exit → Act → World → Prop) (L : Nat → Bool) (s : Nat → Value) (w : World) (h : In65 w0 cnt sum la lc created l L s w) (_ : L 4 = false) (_ : ∀ j ∈ depsOf .any (opsAt Tryz.f65) 4, L j = true) :
    wpOp Tryz.prog (opsAt Tryz.f65) Q 4 (Inv65 w0 cnt sum la lc created l x (upd L 4)) (fr65 w0 x s) w := by
  simp only [opsAt, Tryz.f65]
  refine wpOp_step rfl (fun K' hK' => ?_)
  unfold fr65
  go_simp
  exact hK' _ _ ⟨_, rfl, h.put 4 (by decide) _ (Only.refl _ _) rfl⟩
set_option maxRecDepth 100000 in
set_option maxHeartbeats 1600000 in
theorem st65_5 (w0 : World) (cnt sum : Nat) (la : Option Addr) (lc : Nat) (created : Int) (l : List BP) (x : Value) (Q : Exit → Act → World → Prop) (L : Nat → Bool) (s : Nat → Value) (w : World) (h : In65 w0 cnt sum la lc created l L s w) (_ : L 5 = false) (hd : ∀ j ∈ depsOf .any (opsAt Tryz.f65) 5, L j = true) :
    wpOp Tryz.prog (opsAt Tryz.f65) Q 5 (Inv65 w0 cnt sum la lc created l x (upd L 5)) (fr65 w0 x s) w := by
  have c := h.blk.cell (i := 2) rfl
  have e : s 7 = .pointer (some ⟨w0.heap.size, 2, none⟩) := h.ok 4 (by decide) (hd 4 (of_decide_eq_true (by kernel_rfl)))
  simp only [opsAt, Tryz.f65]
  refine wpOp_step rfl (fun K' hK' => ?_)
  unfold fr65
  go_simp
  refine hK' _ _ ⟨_, ?_, h.put 5 (by decide) _ (Only.refl _ _) rfl⟩
  simp [fr65, putS, e]
set_option maxRecDepth 100000 in
set_option maxHeartbeats 1600000 in
theorem st65_7 (w0 : World) (cnt sum : Nat) (la : Option Addr) (lc : Nat) (created : Int) (l : List BP) (x : Value) (Q : Exit → Act → World → Prop) (L : Nat → Bool) (s : Nat → Value) (w : World) (h : In65 w0 cnt sum la lc created l L s w) (_ : L 7 = false) (_ : ∀ j ∈ depsOf .any (opsAt Tryz.f65) 7, L j = true) :
    wpOp Tryz.prog (opsAt Tryz.f65) Q 7 (Inv65 w0 cnt sum la lc created l x (upd L 7)) (fr65 w0 x s) w := by
  simp only [opsAt, Tryz.f65]
  refine wpOp_step rfl (fun K' hK' => ?_)
  unfold fr65
  go_simp
  exact hK' _ _ ⟨_, rfl, h.put 7 (by decide) _ (Only.refl _ _) rfl⟩
set_option maxRecDepth 100000 in
set_option maxHeartbeats 1600000 in
theorem st65_8 (w0 : World) (cnt sum : Nat) (la : Option Addr) (lc : Nat) (created : Int) (l : List BP) (x : Value) (Q : Exit → Act → World → Prop) (L : Nat → Bool) (s : Nat → Value) (w : World) (h : In65 w0 cnt sum la lc created l L s w) (_ : L 8 = false) (hd : ∀ j ∈ depsOf .any (opsAt Tryz.f65) 8, L j = true) :
    wpOp Tryz.prog (opsAt Tryz.f65) Q 8 (Inv65 w0 cnt sum la lc created l x (upd L 8)) (fr65 w0 x s) w := by
  have c := h.blk.cell (i := 3) rfl
  have e : s 10 = .pointer (some ⟨w0.heap.size, 3, none⟩) := h.ok 7 (by decide) (hd 7 (of_decide_eq_true (by kernel_rfl)))
  simp only [opsAt, Tryz.f65]
  refine wpOp_step rfl (fun K' hK' => ?_)
  unfold fr65
  go_simp
  refine hK' _ _ ⟨_, ?_, h.put 8 (by decide) _ (Only.refl _ _) rfl⟩
  simp [fr65, putS, e]
set_option maxRecDepth 100000 in
set_option maxHeartbeats 1600000 in
theorem st65_9 (w0 : World) (cnt sum : Nat) (la : Option Addr) (lc : Nat) (created : Int) (l : List BP) (x : Value) (Q : Exit → Act → World → Prop) (L : Nat → Bool) (s : Nat → Value) (w : World) (h : In65 w0 cnt sum la lc created l L s w) (_ : L 9 = false) (_ : ∀ j ∈ depsOf .any (opsAt Tryz.f65) 9, L j = true) :
    wpOp Tryz.prog (opsAt Tryz.f65) Q 9 (Inv65 w0 cnt sum la lc created l x (upd L 9)) (fr65 w0 x s) w := by
  simp only [opsAt, Tryz.f65]
  refine wpOp_step rfl (fun K' hK' => ?_)
  unfold fr65
  go_simp
  exact hK' _ _ ⟨_, rfl, h.put 9 (by decide) _ (Only.refl _ _) rfl⟩
set_option maxRecDepth 100000 in
set_option maxHeartbeats 1600000 in
theorem st65_10 (w0 : World) (cnt sum : Nat) (la : Option Addr) (lc : Nat) (created : Int) (l : List BP) (x : Value) (Q : Exit → Act → World → Prop) (L : Nat → Bool) (s : Nat → Value) (w : World) (h : In65 w0 cnt sum la lc created l L s w) (_ : L 10 = false) (hd : ∀ j ∈ depsOf .any (opsAt Tryz.f65) 10, L j = true) :
    wpOp Tryz.prog (opsAt Tryz.f65) Q 10 (Inv65 w0 cnt sum la lc created l x (upd L 10)) (fr65 w0 x s) w := by
  have c := h.blk.cell (i := 4) rfl
  have e : s 12 = .pointer (some ⟨w0.heap.size, 4, none⟩) := h.ok 9 (by decide) (hd 9 (of_decide_eq_true (by kernel_rfl)))
  simp only [opsAt, Tryz.f65]
  refine wpOp_step rfl (fun K' hK' => ?_)
  unfold fr65
  go_simp
  refine hK' _ _ ⟨_, ?_, h.put 10 (by decide) _ (Only.refl _ _) rfl⟩
  simp [fr65, putS, e]
set_option maxRecDepth 100000 in
set_option maxHeartbeats 1600000 in
theorem st65_11 (w0 : World) (cnt sum : Nat) (la : Option Addr) (lc : Nat) (created : Int) (l : List BP) (x : Value) (Q : Exit → Act → World → Prop) (L : Nat → Bool) (s : Nat → Value) (w : World) (h : In65 w0 cnt sum la lc created l L s w) (_ : L 11 = false) (_ : ∀ j ∈ depsOf .any (opsAt Tryz.f65) 11, L j = true) :
    wpOp Tryz.prog (opsAt Tryz.f65) Q 11 (Inv65 w0 cnt sum la lc created l x (upd L 11)) (fr65 w0 x s) w := by
  simp only [opsAt, Tryz.f65]
  refine wpOp_step rfl (fun K' hK' => ?_)
  unfold fr65
  go_simp
  exact hK' _ _ ⟨_, rfl, h.put 11 (by decide) _ (Only.refl _ _) rfl⟩
set_option maxRecDepth 100000 in
set_option maxHeartbeats 1600000 in
theorem st65_12 (w0 : World) (cnt sum : Nat) (la : Option Addr) (lc : Nat) (created : Int) (l : List BP) (x : Value) (Q : Exit → Act → World → Prop) (L : Nat → Bool) (s : Nat → Value) (w : World) (h : In65 w0 cnt sum la lc created l L s w) (_ : L 12 = false) (hd : ∀ j ∈ depsOf .any (opsAt Tryz.f65) 12, L j = true) :
    wpOp Tryz.prog (opsAt Tryz.f65) Q 12 (Inv65 w0 cnt sum la lc created l x (upd L 12)) (fr65 w0 x s) w := by
  have c := h.blk.cell (i := 5) rfl
  have e : s 14 = .pointer (some ⟨w0.heap.size, 5, none⟩) := h.ok 11 (by decide) (hd 11 (of_decide_eq_true (by kernel_rfl)))
  simp only [opsAt, Tryz.f65]
  refine wpOp_step rfl (fun K' hK' => ?_)
  unfold fr65
  go_simp
  refine hK' _ _ ⟨_, ?_, h.put 12 (by decide) _ (Only.refl _ _) rfl⟩
  simp [fr65, putS, e]
set_option maxRecDepth 100000 in
set_option maxHeartbeats 1600000 in
theorem st65_13 (w0 : World) (cnt sum : Nat) (la : Option Addr) (lc : Nat) (created : Int) (l : List BP) (x : Value) (Q : Exit → Act → World → Prop) (L : Nat → Bool) (s : Nat → Value) (w : World) (h : In65 w0 cnt sum la lc created l L s w) (_ : L 13 = false) (_ : ∀ j ∈ depsOf .any (opsAt Tryz.f65) 13, L j = true) :
    wpOp Tryz.prog (opsAt Tryz.f65) Q 13 (Inv65 w0 cnt sum la lc created l x (upd L 13)) (fr65 w0 x s) w := by
  simp only [opsAt, Tryz.f65]
  refine wpOp_step rfl (fun K' hK' => ?_)
  unfold fr65
  go_simp
  exact hK' _ _ ⟨_, rfl, h.put 13 (by decide) _ (Only.refl _ _) rfl⟩
set_option maxRecDepth 100000 in
set_option maxHeartbeats 1600000 in
theorem st65_14 (w0 : World) (cnt sum : Nat) (la : Option Addr) (lc : Nat) (created : Int) (l : List BP) (x : Value) (Q : Exit → Act → World → Prop) (L : Nat → Bool) (s : Nat → Value) (w : World) (h : In65 w0 cnt sum la lc created l L s w) (_ : L 14 = false) (hd : ∀ j ∈ depsOf .any (opsAt Tryz.f65) 14, L j = true) :
    wpOp Tryz.prog (opsAt Tryz.f65) Q 14 (Inv65 w0 cnt sum la lc created l x (upd L 14)) (fr65 w0 x s) w := by
  have c := h.blk.cell (i := 6) rfl
  have e : s 16 = .pointer (some ⟨w0.heap.size, 6, none⟩) := h.ok 13 (by decide) (hd 13 (of_decide_eq_true (by kernel_rfl)))
  simp only [opsAt, Tryz.f65]
  refine wpOp_step rfl (fun K' hK' => ?_)
  unfold fr65
  go_simp
  refine hK' _ _ ⟨_, ?_, h.put 14 (by decide) _ (Only.refl _ _) rfl⟩
  simp [fr65, putS, e]
set_option maxRecDepth 100000 in
set_option maxHeartbeats 1600000 in
theorem st65_15 (w0 : World) (cnt sum : Nat) (la : Option Addr) (lc : Nat) (created : Int) (l : List BP) (x : Value) (Q : Exit → Act → World → Prop) (L : Nat → Bool) (s : Nat → Value) (w : World) (h : In65 w0 cnt sum la lc created l L s w) (_ : L 15 = false) (_ : ∀ j ∈ depsOf .any (opsAt Tryz.f65) 15, L j = true) :
    wpOp Tryz.prog (opsAt Tryz.f65) Q 15 (Inv65 w0 cnt sum la lc created l x (upd L 15)) (fr65 w0 x s) w := by
  simp only [opsAt, Tryz.f65]
  refine wpOp_step rfl (fun K' hK' => ?_)
  unfold fr65
  go_simp
  exact hK' _ _ ⟨_, rfl, h.put 15 (by decide) _ (Only.refl _ _) rfl⟩
set_option maxRecDepth 100000 in
set_option maxHeartbeats 1600000 in
theorem st65_16 (w0 : World) (cnt sum : Nat) (la : Option Addr) (lc : Nat) (created : Int) (l : List BP) (x : Value) (Q : Exit → Act → World → Prop) (L : Nat → Bool) (s : Nat → Value) (w : World) (h : In65 w0 cnt sum la lc created l L s w) (_ : L 16 = false) (hd : ∀ j ∈ depsOf .any (opsAt Tryz.f65) 16, L j = true) :
    wpOp Tryz.prog (opsAt Tryz.f65) Q 16 (Inv65 w0 cnt sum la lc created l x (upd L 16)) (fr65 w0 x s) w := by
  have c := h.blk.cell (i := 7) rfl
  have e : s 18 = .pointer (some ⟨w0.heap.size, 7, none⟩) := h.ok 15 (by decide) (hd 15 (of_decide_eq_true (by kernel_rfl)))
  simp only [opsAt, Tryz.f65]
  refine wpOp_step rfl (fun K' hK' => ?_)
  unfold fr65
  go_simp
  refine hK' _ _ ⟨_, ?_, h.put 16 (by decide) _ (Only.refl _ _) rfl⟩
  simp [fr65, putS, e]
set_option maxRecDepth 100000 in
set_option maxHeartbeats 1600000 in
theorem st65_17 (w0 : World) (cnt sum : Nat) (la : Option Addr) (lc : Nat) (created : Int) (l : List BP) (x : Value) (Q : Exit → Act → World → Prop) (L : Nat → Bool) (s : Nat → Value) (w : World) (h : In65 w0 cnt sum la lc created l L s w) (_ : L 17 = false) (_ : ∀ j ∈ depsOf .any (opsAt Tryz.f65) 17, L j = true) :
    wpOp Tryz.prog (opsAt Tryz.f65) Q 17 (Inv65 w0 cnt sum la lc created l x (upd L 17)) (fr65 w0 x s) w := by
  simp only [opsAt, Tryz.f65]
  refine wpOp_step rfl (fun K' hK' => ?_)
  unfold fr65
  go_simp
  exact hK' _ _ ⟨_, rfl, h.put 17 (by decide) _ (Only.refl _ _) rfl⟩
set_option maxRecDepth 100000 in
set_option maxHeartbeats 1600000 in
theorem st65_18 (w0 : World) (cnt sum : Nat) (la : Option Addr) (lc : Nat) (created : Int) (l : List BP) (x : Value) (Q : Exit → Act → World → Prop) (L : Nat → Bool) (s : Nat → Value) (w : World) (h : In65 w0 cnt sum la lc created l L s w) (_ : L 18 = false) (hd : ∀ j ∈ depsOf .any (opsAt Tryz.f65) 18, L j = true) :
    wpOp Tryz.prog (opsAt Tryz.f65) Q 18 (Inv65 w0 cnt sum la lc created l x (upd L 18)) (fr65 w0 x s) w := by
  have c := h.blk.cell (i := 8) rfl
  have e : s 20 = .pointer (some ⟨w0.heap.size, 8, none⟩) := h.ok 17 (by decide) (hd 17 (of_decide_eq_true (by kernel_rfl)))
  simp only [opsAt, Tryz.f65]
  refine wpOp_step rfl (fun K' hK' => ?_)
  unfold fr65
  go_simp
  refine hK' _ _ ⟨_, ?_, h.put 18 (by decide) _ (Only.refl _ _) rfl⟩
  simp [fr65, putS, e]
set_option maxRecDepth 100000 in
set_option maxHeartbeats 1600000 in
theorem st65_20 (w0 : World) (cnt sum : Nat) (la : Option Addr) (lc : Nat) (created : Int) (l : List BP) (x : Value) (Q : Exit → Act → World → Prop) (L : Nat → Bool) (s : Nat → Value) (w : World) (h : In65 w0 cnt sum la lc created l L s w) (_ : L 20 = false) (_ : ∀ j ∈ depsOf .any (opsAt Tryz.f65) 20, L j = true) :
    wpOp Tryz.prog (opsAt Tryz.f65) Q 20 (Inv65 w0 cnt sum la lc created l x (upd L 20)) (fr65 w0 x s) w := by
  simp only [opsAt, Tryz.f65]
  refine wpOp_step rfl (fun K' hK' => ?_)
  unfold fr65
  go_simp
  exact hK' _ _ ⟨_, rfl, h.put 20 (by decide) _ (Only.refl _ _) rfl⟩
set_option maxRecDepth 100000 in
set_option maxHeartbeats 1600000 in
theorem st65_21 (w0 : World) (cnt sum : Nat) (la : Option Addr) (lc : Nat) (created : Int) (l : List BP) (x : Value) (Q : Exit → Act → World → Prop) (L : Nat → Bool) (s : Nat → Value) (w : World) (h : In65 w0 cnt sum la lc created l L s w) (_ : L 21 = false) (hd : ∀ j ∈ depsOf .any (opsAt Tryz.f65) 21, L j = true) :
    wpOp Tryz.prog (opsAt Tryz.f65) Q 21 (Inv65 w0 cnt sum la lc created l x (upd L 21)) (fr65 w0 x s) w := by
  have c := h.blk.cell (i := 9) rfl
  have e : s 23 = .pointer (some ⟨w0.heap.size, 9, none⟩) := h.ok 20 (by decide) (hd 20 (of_decide_eq_true (by kernel_rfl)))
  simp only [opsAt, Tryz.f65]
  refine wpOp_step rfl (fun K' hK' => ?_)
  unfold fr65
  go_simp
  refine hK' _ _ ⟨_, ?_, h.put 21 (by decide) _ (Only.refl _ _) rfl⟩
  simp [fr65, putS, e]
set_option maxRecDepth 100000 in
set_option maxHeartbeats 1600000 in
theorem st65_24 (w0 : World) (cnt sum : Nat) (la : Option Addr) (lc : Nat) (created : Int) (l : List BP) (x : Value) (Q : Exit → Act → World → Prop) (L : Nat → Bool) (s : Nat → Value) (w : World) (h : In65 w0 cnt sum la lc created l L s w) (_ : L 24 = false) (_ : ∀ j ∈ depsOf .any (opsAt Tryz.f65) 24, L j = true) :
    wpOp Tryz.prog (opsAt Tryz.f65) Q 24 (Inv65 w0 cnt sum la lc created l x (upd L 24)) (fr65 w0 x s) w := by
  simp only [opsAt, Tryz.f65]
  refine wpOp_step rfl (fun K' hK' => ?_)
  unfold fr65
  go_simp
  exact hK' _ _ ⟨_, rfl, h.put 24 (by decide) _ (Only.refl _ _) rfl⟩
set_option maxRecDepth 100000 in
set_option maxHeartbeats 1600000 in
theorem st65_25 (w0 : World) (cnt sum : Nat) (la : Option Addr) (lc : Nat) (created : Int) (l : List BP) (x : Value) (Q : Exit → Act → World → Prop) (L : Nat → Bool) (s : Nat → Value) (w : World) (h : In65 w0 cnt sum la lc created l L s w) (_ : L 25 = false) (hd : ∀ j ∈ depsOf .any (opsAt Tryz.f65) 25, L j = true) :
    wpOp Tryz.prog (opsAt Tryz.f65) Q 25 (Inv65 w0 cnt sum la lc created l x (upd L 25)) (fr65 w0 x s) w := by
  have c := h.blk.cell (i := 10) rfl
  have e : s 27 = .pointer (some ⟨w0.heap.size, 10, none⟩) := h.ok 24 (by decide) (hd 24 (of_decide_eq_true (by kernel_rfl)))
  simp only [opsAt, Tryz.f65]
  refine wpOp_step rfl (fun K' hK' => ?_)
  unfold fr65
  go_simp
  refine hK' _ _ ⟨_, ?_, h.put 25 (by decide) _ (Only.refl _ _) rfl⟩
  simp [fr65, putS, e]
set_option maxRecDepth 100000 in
set_option maxHeartbeats 1600000 in
theorem st65_28 (w0 : World) (cnt sum : Nat) (la : Option Addr) (lc : Nat) (created : Int) (l : List BP) (x : Value) (Q : Exit → Act → World → Prop) (L : Nat → Bool) (s : Nat → Value) (w : World) (h : In65 w0 cnt sum la lc created l L s w) (_ : L 28 = false) (_ : ∀ j ∈ depsOf .any (opsAt Tryz.f65) 28, L j = true) :
    wpOp Tryz.prog (opsAt Tryz.f65) Q 28 (Inv65 w0 cnt sum la lc created l x (upd L 28)) (fr65 w0 x s) w := by
  simp only [opsAt, Tryz.f65]
  refine wpOp_step rfl (fun K' hK' => ?_)
  unfold fr65
  go_simp
  exact hK' _ _ ⟨_, rfl, h.put 28 (by decide) _ (Only.refl _ _) rfl⟩
set_option maxRecDepth 100000 in
set_option maxHeartbeats 1600000 in
theorem st65_29 (w0 : World) (cnt sum : Nat) (la : Option Addr) (lc : Nat) (created : Int) (l : List BP) (x : Value) (Q : Exit → Act → World → Prop) (L : Nat → Bool) (s : Nat → Value) (w : World) (h : In65 w0 cnt sum la lc created l L s w) (_ : L 29 = false) (hd : ∀ j ∈ depsOf .any (opsAt Tryz.f65) 29, L j = true) :
    wpOp Tryz.prog (opsAt Tryz.f65) Q 29 (Inv65 w0 cnt sum la lc created l x (upd L 29)) (fr65 w0 x s) w := by
  have c := h.blk.cell (i := 11) rfl
  have e : s 31 = .pointer (some ⟨w0.heap.size, 11, none⟩) := h.ok 28 (by decide) (hd 28 (of_decide_eq_true (by kernel_rfl)))
  simp only [opsAt, Tryz.f65]
  refine wpOp_step rfl (fun K' hK' => ?_)
  unfold fr65
  go_simp
  refine hK' _ _ ⟨_, ?_, h.put 29 (by decide) _ (Only.refl _ _) rfl⟩
  simp [fr65, putS, e]
set_option maxRecDepth 100000 in
set_option maxHeartbeats 1600000 in
theorem st65_31 (w0 : World) (cnt sum : Nat) (la : Option Addr) (lc : Nat) (created : Int) (l : List BP) (x : Value) (Q : Exit → Act → World → Prop) (L : Nat → Bool) (s : Nat → Value) (w : World) (h : In65 w0 cnt sum la lc created l L s w) (_ : L 31 = false) (_ : ∀ j ∈ depsOf .any (opsAt Tryz.f65) 31, L j = true) :
    wpOp Tryz.prog (opsAt Tryz.f65) Q 31 (Inv65 w0 cnt sum la lc created l x (upd L 31)) (fr65 w0 x s) w := by
  simp only [opsAt, Tryz.f65]
  refine wpOp_step rfl (fun K' hK' => ?_)
  unfold fr65
  go_simp
  exact hK' _ _ ⟨_, rfl, h.put 31 (by decide) _ (Only.refl _ _) rfl⟩
set_option maxRecDepth 100000 in
set_option maxHeartbeats 1600000 in
theorem st65_32 (w0 : World) (cnt sum : Nat) (la : Option Addr) (lc : Nat) (created : Int) (l : List BP) (x : Value) (Q : Exit → Act → World → Prop) (L : Nat → Bool) (s : Nat → Value) (w : World) (h : In65 w0 cnt sum la lc created l L s w) (_ : L 32 = false) (hd : ∀ j ∈ depsOf .any (opsAt Tryz.f65) 32, L j = true) :
    wpOp Tryz.prog (opsAt Tryz.f65) Q 32 (Inv65 w0 cnt sum la lc created l x (upd L 32)) (fr65 w0 x s) w := by
  have c := h.blk.cell (i := 12) rfl
  have e : s 34 = .pointer (some ⟨w0.heap.size, 12, none⟩) := h.ok 31 (by decide) (hd 31 (of_decide_eq_true (by kernel_rfl)))
  simp only [opsAt, Tryz.f65]
  refine wpOp_step rfl (fun K' hK' => ?_)
  unfold fr65
  go_simp
  refine hK' _ _ ⟨_, ?_, h.put 32 (by decide) _ (Only.refl _ _) rfl⟩
  simp [fr65, putS, e]
set_option maxRecDepth 100000 in
set_option maxHeartbeats 1600000 in
theorem st65_6 (w0 : World) (cnt sum : Nat) (la : Option Addr) (lc : Nat) (created : Int) (l : List BP) (x : Value) (Q : Exit → Act → World → Prop) (L : Nat → Bool) (s : Nat → Value) (w : World) (h : In65 w0 cnt sum la lc created l L s w) (B : Nat) (hrow : w0.ownsRow B 96 6 (.slice la l.length lc) l.length (bRow l)) (hlen : l.length ≤ 1048578) (_ : L 6 = false) (hd : ∀ j ∈ depsOf .any (opsAt Tryz.f65) 6, L j = true) :
    wpOp Tryz.prog (opsAt Tryz.f65) Q 6 (Inv65 w0 cnt sum la lc created l x (upd L 6)) (fr65 w0 x s) w := by
  have e : s 8 = .slice la l.length lc := h.ok 5 (by decide) (hd 5 (of_decide_eq_true (by kernel_rfl)))
  simp only [opsAt, Tryz.f65]
  refine wpOp_step rfl (fun K' hK' => ?_)
  unfold fr65
  go_simp
  go_at_call 84
  refine (bucketsFrom_plain _ l B w (h.only.ownsRow hrow (fun _ _ => id)) hlen).mono ?_
  rintro e' w' ⟨q, rfl, hq, ho⟩
  obtain ⟨qa, qc, rfl⟩ := ownsRow_slice hq
  go_simp
  refine hK' _ _ ⟨_, ?_, h.put 6 (by decide) _ ho ⟨qa, qc, rfl, ownsRow_lower hq h.size⟩⟩
  simp [fr65, putS, e]
set_option maxRecDepth 100000 in
set_option maxHeartbeats 1600000 in
theorem st65_19 (w0 : World) (cnt sum : Nat) (la : Option Addr) (lc : Nat) (created : Int) (l : List BP) (x : Value) (Q : Exit → Act → World → Prop) (L : Nat → Bool) (s : Nat → Value) (w : World) (h : In65 w0 cnt sum la lc created l L s w) (_ : L 19 = false) (hd : ∀ j ∈ depsOf .any (opsAt Tryz.f65) 19, L j = true) :
    wpOp Tryz.prog (opsAt Tryz.f65) Q 19 (Inv65 w0 cnt sum la lc created l x (upd L 19)) (fr65 w0 x s) w := by
  have e : s 21 = .slice none 0 0 := h.ok 18 (by decide) (hd 18 (of_decide_eq_true (by kernel_rfl)))
  simp only [opsAt, Tryz.f65]
  refine wpOp_step rfl (fun K' hK' => ?_)
  unfold fr65
  go_simp
  go_at_call 85
  refine (runsFrom_nil _).mono ?_
  rintro e' w' ⟨rfl, rfl⟩
  go_simp
  refine hK' _ _ ⟨_, ?_, h.put 19 (by decide) _ (Only.refl _ _) rfl⟩
  simp [fr65, putS, e]
set_option maxRecDepth 100000 in
set_option maxHeartbeats 1600000 in
theorem st65_22 (w0 : World) (cnt sum : Nat) (la : Option Addr) (lc : Nat) (created : Int) (l : List BP) (x : Value) (Q : Exit → Act → World → Prop) (L : Nat → Bool) (s : Nat → Value) (w : World) (h : In65 w0 cnt sum la lc created l L s w) (_ : L 22 = false) (hd : ∀ j ∈ depsOf .any (opsAt Tryz.f65) 22, L j = true) :
    wpOp Tryz.prog (opsAt Tryz.f65) Q 22 (Inv65 w0 cnt sum la lc created l x (upd L 22)) (fr65 w0 x s) w := by
  have e : s 24 = .slice none 0 0 := h.ok 21 (by decide) (hd 21 (of_decide_eq_true (by kernel_rfl)))
  simp only [opsAt, Tryz.f65]
  refine wpOp_step rfl (fun K' hK' => ?_)
  unfold fr65
  go_simp
  go_at_call 85
  refine (runsFrom_nil _).mono ?_
  rintro e' w' ⟨rfl, rfl⟩
  go_simp
  refine hK' _ _ ⟨_, ?_, h.put 22 (by decide) _ (Only.refl _ _) rfl⟩
  simp [fr65, putS, e]
set_option maxRecDepth 100000 in
set_option maxHeartbeats 1600000 in
theorem st65_33 (w0 : World) (cnt sum : Nat) (la : Option Addr) (lc : Nat) (created : Int) (l : List BP) (x : Value) (Q : Exit → Act → World → Prop) (L : Nat → Bool) (s : Nat → Value) (w : World) (h : In65 w0 cnt sum la lc created l L s w) (_ : L 33 = false) (hd : ∀ j ∈ depsOf .any (opsAt Tryz.f65) 33, L j = true) :
    wpOp Tryz.prog (opsAt Tryz.f65) Q 33 (Inv65 w0 cnt sum la lc created l x (upd L 33)) (fr65 w0 x s) w := by
  have e : s 35 = .slice none 0 0 := h.ok 32 (by decide) (hd 32 (of_decide_eq_true (by kernel_rfl)))
  simp only [opsAt, Tryz.f65]
  refine wpOp_step rfl (fun K' hK' => ?_)
  unfold fr65
  go_simp
  go_at_call 86
  refine (marksFrom_nil _).mono ?_
  rintro e' w' ⟨rfl, rfl⟩
  go_simp
  refine hK' _ _ ⟨_, ?_, h.put 33 (by decide) _ (Only.refl _ _) rfl⟩
  simp [fr65, putS, e]
set_option maxRecDepth 100000 in
set_option maxHeartbeats 1600000 in
theorem st65_23 (w0 : World) (cnt sum : Nat) (la : Option Addr) (lc : Nat) (created : Int) (l : List BP) (x : Value) (Q : Exit → Act → World → Prop) (L : Nat → Bool) (s : Nat → Value) (w : World) (h : In65 w0 cnt sum la lc created l L s w) (_ : L 23 = false) (_ : ∀ j ∈ depsOf .any (opsAt Tryz.f65) 23, L j = true) :
    wpOp Tryz.prog (opsAt Tryz.f65) Q 23 (Inv65 w0 cnt sum la lc created l x (upd L 23)) (fr65 w0 x s) w := by
  simp only [opsAt, Tryz.f65]
  refine wpOp_step rfl (fun K' hK' => ?_)
  unfold fr65
  go_simp
  exact hK' _ _ ⟨_, rfl, h.put 23 (by decide) _ ((Only.refl _ _).alloc _) ⟨_, rfl⟩⟩
set_option maxRecDepth 100000 in
set_option maxHeartbeats 1600000 in
theorem st65_27 (w0 : World) (cnt sum : Nat) (la : Option Addr) (lc : Nat) (created : Int) (l : List BP) (x : Value) (Q : Exit → Act → World → Prop) (L : Nat → Bool) (s : Nat → Value) (w : World) (h : In65 w0 cnt sum la lc created l L s w) (_ : L 27 = false) (_ : ∀ j ∈ depsOf .any (opsAt Tryz.f65) 27, L j = true) :
    wpOp Tryz.prog (opsAt Tryz.f65) Q 27 (Inv65 w0 cnt sum la lc created l x (upd L 27)) (fr65 w0 x s) w := by
  simp only [opsAt, Tryz.f65]
  refine wpOp_step rfl (fun K' hK' => ?_)
  unfold fr65
  go_simp
  exact hK' _ _ ⟨_, rfl, h.put 27 (by decide) _ ((Only.refl _ _).alloc _) ⟨_, rfl⟩⟩
set_option maxRecDepth 100000 in
set_option maxHeartbeats 1600000 in
theorem st65_26 (w0 : World) (cnt sum : Nat) (la : Option Addr) (lc : Nat) (created : Int) (l : List BP) (x : Value) (Q : Exit → Act → World → Prop) (L : Nat → Bool) (s : Nat → Value) (w : World) (h : In65 w0 cnt sum la lc created l L s w) (_ : L 26 = false) (hd : ∀ j ∈ depsOf .any (opsAt Tryz.f65) 26, L j = true) :
    wpOp Tryz.prog (opsAt Tryz.f65) Q 26 (Inv65 w0 cnt sum la lc created l x (upd L 26)) (fr65 w0 x s) w := by
  obtain ⟨b, e⟩ : ∃ b, s 26 = .slice (some ⟨b, 0, none⟩) 0 0 := h.ok 23 (by decide) (hd 23 (of_decide_eq_true (by kernel_rfl)))
  have e2 : s 28 = .slice none 0 0 := h.ok 25 (by decide) (hd 25 (of_decide_eq_true (by kernel_rfl)))
  simp only [opsAt, Tryz.f65]
  refine wpOp_step rfl (fun K' hK' => ?_)
  unfold fr65
  go_simp
  refine hK' _ _ ⟨_, ?_, h.put 26 (by decide) _ (Only.refl _ _) ⟨b, rfl⟩⟩
  simp [fr65, putS, e, e2]
set_option maxRecDepth 100000 in
set_option maxHeartbeats 1600000 in
theorem st65_30 (w0 : World) (cnt sum : Nat) (la : Option Addr) (lc : Nat) (created : Int) (l : List BP) (x : Value) (Q : Exit → Act → World → Prop) (L : Nat → Bool) (s : Nat → Value) (w : World) (h : In65 w0 cnt sum la lc created l L s w) (_ : L 30 = false) (hd : ∀ j ∈ depsOf .any (opsAt Tryz.f65) 30, L j = true) :
    wpOp Tryz.prog (opsAt Tryz.f65) Q 30 (Inv65 w0 cnt sum la lc created l x (upd L 30)) (fr65 w0 x s) w := by
  obtain ⟨b, e⟩ : ∃ b, s 30 = .slice (some ⟨b, 0, none⟩) 0 0 := h.ok 27 (by decide) (hd 27 (of_decide_eq_true (by kernel_rfl)))
  have e2 : s 32 = .slice none 0 0 := h.ok 29 (by decide) (hd 29 (of_decide_eq_true (by kernel_rfl)))
  simp only [opsAt, Tryz.f65]
  refine wpOp_step rfl (fun K' hK' => ?_)
  unfold fr65
  go_simp
  refine hK' _ _ ⟨_, ?_, h.put 30 (by decide) _ (Only.refl _ _) ⟨b, rfl⟩⟩
  simp [fr65, putS, e, e2]
set_option maxRecDepth 100000 in
set_option maxHeartbeats 1600000 in
theorem st65_34 (w0 : World) (cnt sum : Nat) (la : Option Addr) (lc : Nat) (created : Int) (l : List BP) (x : Value) (Q : Exit → Act → World → Prop) (L : Nat → Bool) (s : Nat → Value) (w : World) (h : In65 w0 cnt sum la lc created l L s w) (_ : L 34 = false) (hd : ∀ j ∈ depsOf .any (opsAt Tryz.f65) 34, L j = true) :
    wpOp Tryz.prog (opsAt Tryz.f65) Q 34 (Inv65 w0 cnt sum la lc created l x (upd L 34)) (fr65 w0 x s) w := by
  have e4 : s 4 = .int .u64 cnt := h.ok 1 (by decide) (hd 1 (of_decide_eq_true (by kernel_rfl)))
  have e6 : s 6 = .float .f64 sum := h.ok 3 (by decide) (hd 3 (of_decide_eq_true (by kernel_rfl)))
  obtain ⟨qa, qc, e9, hq⟩ : ∃ qa qc, s 9 = .slice qa l.length qc ∧ w.ownsRow (w0.heap.size + 2) 43 6 (s 9) l.length (bRow l) := h.ok 6 (by decide) (hd 6 (of_decide_eq_true (by kernel_rfl)))
  have e11 : s 11 = .int .i64 created := h.ok 8 (by decide) (hd 8 (of_decide_eq_true (by kernel_rfl)))
  have e13 : s 13 = .bool false := h.ok 10 (by decide) (hd 10 (of_decide_eq_true (by kernel_rfl)))
  have e15 : s 15 = .int .i32 0 := h.ok 12 (by decide) (hd 12 (of_decide_eq_true (by kernel_rfl)))
  have e17 : s 17 = .float .f64 0 := h.ok 14 (by decide) (hd 14 (of_decide_eq_true (by kernel_rfl)))
  have e19 : s 19 = .int .u64 0 := h.ok 16 (by decide) (hd 16 (of_decide_eq_true (by kernel_rfl)))
  have e22 : s 22 = .slice none 0 0 := h.ok 19 (by decide) (hd 19 (of_decide_eq_true (by kernel_rfl)))
  have e25 : s 25 = .slice none 0 0 := h.ok 22 (by decide) (hd 22 (of_decide_eq_true (by kernel_rfl)))
  obtain ⟨b1, e29⟩ : ∃ b, s 29 = .slice (some ⟨b, 0, none⟩) 0 0 := h.ok 26 (by decide) (hd 26 (of_decide_eq_true (by kernel_rfl)))
  obtain ⟨b2, e33⟩ : ∃ b, s 33 = .slice (some ⟨b, 0, none⟩) 0 0 := h.ok 30 (by decide) (hd 30 (of_decide_eq_true (by kernel_rfl)))
  have e36 : s 36 = .slice none 0 0 := h.ok 33 (by decide) (hd 33 (of_decide_eq_true (by kernel_rfl)))
  rw [e9] at hq
  simp only [opsAt, Tryz.f65]
  refine wpOp_step rfl (fun K' hK' => ?_)
  unfold fr65
  go_simp
  refine hK' _ _ ⟨_, ?_, h.put 34 (by decide) _ (Only.refl _ _) ⟨qa, qc, b1, b2, rfl, hq⟩⟩
  simp [fr65, putS, e4, e6, e9, e11, e13, e15, e17, e19, e22, e25, e29, e33, e36]
set_option maxRecDepth 100000 in
set_option maxHeartbeats 1600000 in
theorem st65_35 (w0 : World) (cnt sum : Nat) (la : Option Addr) (lc : Nat) (created : Int) (l : List BP) (x : Value) (Q : Exit → Act → World → Prop) (L : Nat → Bool) (s : Nat → Value) (w : World) (h : In65 w0 cnt sum la lc created l L s w) (hL : L 35 = false) (hd : ∀ j ∈ depsOf .any (opsAt Tryz.f65) 35, L j = true) :
    wpOp Tryz.prog (opsAt Tryz.f65) Q 35 (Inv65 w0 cnt sum la lc created l x (upd L 35)) (fr65 w0 x s) w := by
  obtain ⟨qa, qc, b1, b2, e, hq⟩ := h.ok 34 (by decide) (hd 34 (of_decide_eq_true (by kernel_rfl)))
  have hz := h.res0 hL
  have zf := hz.free
  have z0 := hz.cell (i := 0) rfl
  have z1 := hz.cell (i := 1) rfl
  have z2 := hz.cell (i := 2) rfl
  have z3 := hz.cell (i := 3) rfl
  have z4 := hz.cell (i := 4) rfl
  have z5 := hz.cell (i := 5) rfl
  have z6 := hz.cell (i := 6) rfl
  have z7 := hz.cell (i := 7) rfl
  have z8 := hz.cell (i := 8) rfl
  have z9 := hz.cell (i := 9) rfl
  have z10 := hz.cell (i := 10) rfl
  have z11 := hz.cell (i := 11) rfl
  have z12 := hz.cell (i := 12) rfl
  simp only [opsAt, Tryz.f65]
  refine wpOp_step rfl (fun K' hK' => ?_)
  unfold fr65
  go_simp
  exact hK' _ _ ⟨s, by simp [fr65, e], h.stored qa qc b1 b2 hz hq⟩
theorem step65 (w0 : World) (cnt sum : Nat) (la : Option Addr) (lc : Nat) (created : Int) (l : List BP) (x : Value) (Q : Exit → Act → World → Prop) (B : Nat) (hrow : w0.ownsRow B 96 6 (.slice la l.length lc) l.length (bRow l)) (hlen : l.length ≤ 1048578) :
    ∀ L a w i, Inv65 w0 cnt sum la lc created l x L a w → i < (opsAt Tryz.f65).size → L i = false → (∀ j ∈ depsOf .any (opsAt Tryz.f65) i, L j = true) → wpOp Tryz.prog (opsAt Tryz.f65) Q i (Inv65 w0 cnt sum la lc created l x (upd L i)) a w := by
  rintro L a w i ⟨s, rfl, h⟩ hi hL hd
  rw [size65] at hi
  have hc : i = 0 ∨ i = 1 ∨ i = 2 ∨ i = 3 ∨ i = 4 ∨ i = 5 ∨ i = 6 ∨ i = 7 ∨ i = 8 ∨ i = 9 ∨ i = 10 ∨ i = 11 ∨ i = 12 ∨ i = 13 ∨ i = 14 ∨ i = 15 ∨ i = 16 ∨ i = 17 ∨ i = 18 ∨ i = 19 ∨ i = 20 ∨ i = 21 ∨ i = 22 ∨ i = 23 ∨ i = 24 ∨ i = 25 ∨ i = 26 ∨ i = 27 ∨ i = 28 ∨ i = 29 ∨ i = 30 ∨ i = 31 ∨ i = 32 ∨ i = 33 ∨ i = 34 ∨ i = 35 := by omega
  rcases hc with rfl | rfl | rfl | rfl | rfl | rfl | rfl | rfl | rfl | rfl | rfl | rfl | rfl | rfl | rfl | rfl | rfl | rfl | rfl | rfl | rfl | rfl | rfl | rfl | rfl | rfl | rfl | rfl | rfl | rfl | rfl | rfl | rfl | rfl | rfl | rfl
  · exact st65_0 w0 cnt sum la lc created l x Q L s w h hL hd
  · exact st65_1 w0 cnt sum la lc created l x Q L s w h hL hd
  · exact st65_2 w0 cnt sum la lc created l x Q L s w h hL hd
  · exact st65_3 w0 cnt sum la lc created l x Q L s w h hL hd
  · exact st65_4 w0 cnt sum la lc created l x Q L s w h hL hd
  · exact st65_5 w0 cnt sum la lc created l x Q L s w h hL hd
  · exact st65_6 w0 cnt sum la lc created l x Q L s w h B hrow hlen hL hd
  · exact st65_7 w0 cnt sum la lc created l x Q L s w h hL hd
  · exact st65_8 w0 cnt sum la lc created l x Q L s w h hL hd
  · exact st65_9 w0 cnt sum la lc created l x Q L s w h hL hd
  · exact st65_10 w0 cnt sum la lc created l x Q L s w h hL hd
  · exact st65_11 w0 cnt sum la lc created l x Q L s w h hL hd
  · exact st65_12 w0 cnt sum la lc created l x Q L s w h hL hd
  · exact st65_13 w0 cnt sum la lc created l x Q L s w h hL hd
  · exact st65_14 w0 cnt sum la lc created l x Q L s w h hL hd
  · exact st65_15 w0 cnt sum la lc created l x Q L s w h hL hd
  · exact st65_16 w0 cnt sum la lc created l x Q L s w h hL hd
  · exact st65_17 w0 cnt sum la lc created l x Q L s w h hL hd
  · exact st65_18 w0 cnt sum la lc created l x Q L s w h hL hd
  · exact st65_19 w0 cnt sum la lc created l x Q L s w h hL hd
  · exact st65_20 w0 cnt sum la lc created l x Q L s w h hL hd
  · exact st65_21 w0 cnt sum la lc created l x Q L s w h hL hd
  · exact st65_22 w0 cnt sum la lc created l x Q L s w h hL hd
  · exact st65_23 w0 cnt sum la lc created l x Q L s w h hL hd
  · exact st65_24 w0 cnt sum la lc created l x Q L s w h hL hd
  · exact st65_25 w0 cnt sum la lc created l x Q L s w h hL hd
  · exact st65_26 w0 cnt sum la lc created l x Q L s w h hL hd
  · exact st65_27 w0 cnt sum la lc created l x Q L s w h hL hd
  · exact st65_28 w0 cnt sum la lc created l x Q L s w h hL hd
  · exact st65_29 w0 cnt sum la lc created l x Q L s w h hL hd
  · exact st65_30 w0 cnt sum la lc created l x Q L s w h hL hd
  · exact st65_31 w0 cnt sum la lc created l x Q L s w h hL hd
  · exact st65_32 w0 cnt sum la lc created l x Q L s w h hL hd
  · exact st65_33 w0 cnt sum la lc created l x Q L s w h hL hd
  · exact st65_34 w0 cnt sum la lc created l x Q L s w h hL hd
  · exact st65_35 w0 cnt sum la lc created l x Q L s w h hL hd

set_option maxHeartbeats 1600000 in
set_option maxRecDepth 100000 in
theorem histFrom_plain (cnt sum : Nat) (la : Option Addr) (lc : Nat) (created : Int) (l : List BP) (B : Nat) (w : World) (hrow : w.ownsRow B 96 6 (.slice la l.length lc) l.length (bRow l)) (hlen : l.length ≤ 1048578) :
    Calls Tryz.prog 65 #[.agg #[.int .u64 cnt, .float .f64 sum, .slice la l.length lc, .int .i64 created, .bool false, .int .i32 0, .float .f64 0, .int .u64 0, .slice none 0 0, .slice none 0 0, .slice none 0 0, .slice none 0 0, .slice none 0 0]] w fun e w' => ∃ qa qc b1 b2, e = .returned (.agg #[.int .u64 cnt, .float .f64 sum, .slice qa l.length qc, .int .i64 created, .bool false, .int .i32 0, .float .f64 0, .int .u64 0, .slice none 0 0, .slice none 0 0, .slice (some ⟨b1, 0, none⟩) 0 0, .slice (some ⟨b2, 0, none⟩) 0 0, .slice none 0 0]) ∧
      w'.ownsRow w.heap.size 43 6 (.slice qa l.length qc) l.length (bRow l) ∧ Only (fun _ => False) w w' := by
  have HROW := Lib.hid hrow
  have HLEN := Lib.hid hlen
  have HI : Hid (∀ L, (∀ i, L i = false) → In65 w cnt sum la lc created l L (fun _ => undef) ((w.alloc (.cells (hVals cnt sum (.slice la l.length lc) created).toArray 92)).alloc (.cells (hVals 0 0 (.slice none 0 0) 0).toArray 36)).drew) := Lib.hid (fun L hL => {
    blk := ((IsBlock.new w _ 92).alloc _).drew
    only := (((Only.refl _ w).alloc _).alloc _).drew
    size := by show _ ≤ (World.alloc _ _).heap.size; rw [World.size_alloc, World.size_alloc]; omega
    ok := fun i _ h => by rw [hL] at h; cases h
    res0 := fun _ => (blk_new' _ _ _ _ (World.size_alloc _ _).symm).drew
    res1 := fun h => by rw [hL] at h; cases h })
  clear hrow hlen
  go_enter Tryz.func65, Tryz.ntmps65
  go_upto_region 1 with fail
  refine region_inv (ops := opsAt Tryz.f65) (by kernel_rfl) (Inv65 w cnt sum la lc created l (.agg #[.int .u64 cnt, .float .f64 sum, .slice la l.length lc, .int .i64 created, .bool false, .int .i32 0, .float .f64 0, .int .u64 0, .slice none 0 0, .slice none 0 0, .slice none 0 0, .slice none 0 0, .slice none 0 0])) early65 ?_ (step65 w cnt sum la lc created l _ _ B HROW.out HLEN.out) ?_
  · exact ⟨fun _ => undef, rfl, ((HI.out _ (fun _ => rfl)))⟩
  · rintro L a w' ⟨s, rfl, h⟩ hall
    obtain ⟨qa, qc, b1, b2, hB, hq⟩ := h.res1 (hall 35 (by rw [size65]; decide))
    have ho := h.only
    have HH := Lib.hid (And.intro hq ho)
    clear h hall hq ho
    unfold fr65
    go_wp2_with fail
    have y0 := hB.cell (i := 0) rfl
    have y1 := hB.cell (i := 1) rfl
    have y2 := hB.cell (i := 2) rfl
    have y3 := hB.cell (i := 3) rfl
    have y4 := hB.cell (i := 4) rfl
    have y5 := hB.cell (i := 5) rfl
    have y6 := hB.cell (i := 6) rfl
    have y7 := hB.cell (i := 7) rfl
    have y8 := hB.cell (i := 8) rfl
    have y9 := hB.cell (i := 9) rfl
    have y10 := hB.cell (i := 10) rfl
    have y11 := hB.cell (i := 11) rfl
    have y12 := hB.cell (i := 12) rfl
    exact bodyPost_ret (v := .agg #[.int .u64 cnt, .float .f64 sum, .slice qa l.length qc, .int .i64 created, .bool false, .int .i32 0, .float .f64 0, .int .u64 0, .slice none 0 0, .slice none 0 0, .slice (some ⟨b1, 0, none⟩) 0 0, .slice (some ⟨b2, 0, none⟩) 0 0, .slice none 0 0]) (by simp [results, Tryz.results65, go_sem, y0, y1, y2, y3, y4, y5, y6, y7, y8, y9, y10, y11, y12]) rfl ⟨qa, qc, b1, b2, rfl, ownsRow_lower HH.out.1 (by omega), HH.out.2⟩
end Go.Proofs.YtebjclmbacmilaaGreatDoor
