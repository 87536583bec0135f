/- histFrom of a written native histogram: its region draws its order; an invariant over the operations that have run. Conditions: as stated. (Printed by nfrom.py.) -/
import Derived.Test.YtebjclmbacmilaaGreatDoorZo
import Derived.Test.YtebjclmbacmilaaGreatDoorxRf
import Derived.Test.YtebjclmbacmilaaGreatDoorxHz
import Derived.Deep.Upon
import Derived.Deep.RegionLawGrows
namespace Go.Proofs.YtebjclmbacmilaaGreatDoor
open Go.RowKit

section
variable {P : Program} (w : World)
/-- Append onto an empty slice without room, from whatever slice: no old block is written. -/
theorem step_into_empty {ops : Array Oper} {o : Oper} {a : Act} {K : Act → World → Prop} {Q : Exit → Act → World → Prop} {E : Prop} (hgd : o.guard = none) (s xo : Operand) (t : TypeId)
    (ho : o.op = .call { callee := .builtin .append, args := #[s, xo], argTypes := #[t, t] })
    (base : Nat) (e : TypeId) (i : TypeInfo) (z : Value) (size bytes : Nat) (ht : P.underlying t = some (.slice e)) (hi : P.info? e = some i) (hz : i.zero = some z)
    (hsize : i.size = size) (hby : i.bytes = bytes) (hzs : z.cells.size = size) (hsz : 0 < size)
    (b : Nat) (hs : a.eval s = .slice (some ⟨b, 0, none⟩) 0 0) (hown : w.ownsRow base e size (.slice (some ⟨b, 0, none⟩) 0 0) 0 [])
    (x : Value) (m : Nat) (news : List Value) (hxo : a.eval xo = x) (hx : SrcIs w x size m news) (h1 : ∀ u ∈ news, u.oneCell' = true)
    (h63 : m ≤ maxLen) (hbytes : m * bytes ≤ 140737488355328) (hbase : base ≤ w.heap.size)
    (h : ∀ v' w', w'.ownsRow base e size v' m news → Only (fun _ => False) w w' → K (a.put o.dst v') w') :
    if Region.wanted o (yielded ops a.tmps) = true then Oper.wp P o a w K Q else E := by
  have hw : Region.wanted o (yielded ops a.tmps) = true := by simp [Region.wanted, hgd]
  rw [if_pos hw]
  have key : ∃ v' w', (Builtin.append_ #[t, t] o.type #[.slice (some ⟨b, 0, none⟩) 0 0, x]).run P w = .ok v' w' ∧ w'.ownsRow base e size v' m news ∧ Only (fun _ => False) w w' := by
    rcases hx with ⟨rfl, rfl, rfl⟩ | ⟨ad, c, rfl, h2, h3⟩
    · exact ⟨_, w, run_append_nothing w t t o.type e i ht hi _ 0 0 (Nat.le_refl _) _ (Src.ofNil w ht 0), hown, Only.refl _ _⟩
    · by_cases hm : m = 0
      · subst hm
        obtain rfl : news = [] := List.eq_nil_of_length_eq_zero (by simpa using h2)
        exact ⟨_, w, run_append_nothing w t t o.type e i ht hi _ 0 0 (Nat.le_refl _) _ (Src.ofSlice w ht ad 0 c [] (by simp) (fun _ _ h => by simp at h) (fun _ h => by cases h)), hown, Only.refl _ _⟩
      · obtain ⟨v', w', r1, r2, r3⟩ := run_append_arg_grows (P := P) w t o.type e i z size bytes ht hi hz hsize hby hzs hsz ⟨b, 0, none⟩ 0 0 [] (by simp) (fun _ _ h => by simp at h) ad m c news h2 h3 (by omega) (by omega) (by rw [Nat.zero_add]; exact hbytes)
        rw [Nat.zero_add, List.nil_append] at r2
        exact ⟨v', w', r1, ownsRow_lower r2 hbase, ⟨r3.os, r3.tape, r3.output, r3.size, fun k hk _ => r3.block k hk (by simp)⟩⟩
  obtain ⟨v', w', hr, h2, h3⟩ := key
  unfold Oper.wp execOp
  simp only [ho, resolve, invoke, builtin, Sem.run_bind, Sem.run_pure, Result.andThen_ok, List.map_toArray, List.map_cons, List.map_nil, hs, hxo, hr]
  exact h v' w' h2 h3
end

/-- The rows that a conversion made. -/
structure NOut where
  qa : Option Addr
  qc : Nat
  a1 : Option Addr
  c1 : Nat
  a2 : Option Addr
  c2 : Nat
  a3 : Option Addr
  c3 : Nat
  a4 : Option Addr
  c4 : Nat
def nOut (R : NRec) (sch : Int) (o : NOut) : List Value := [.int .u64 R.cnt, .float .f64 R.sum, .slice o.qa 0 o.qc, .int .i64 R.created, .bool true, .int .i32 sch, .float .f64 R.zt, .int .u64 R.zc, .slice o.a1 R.Ln.length o.c1, .slice o.a2 R.Lp.length o.c2, .slice o.a3 R.tn.length o.c3, .slice o.a4 R.tp.length o.c4, .slice none 0 0]
structure NOutIn (w : World) (base : Nat) (R : NRec) (o : NOut) : Prop where
  q : w.ownsRow base 43 6 (.slice o.qa 0 o.qc) 0 []
  rn : w.ownsRow base 159 2 (.slice o.a1 R.Ln.length o.c1) R.Ln.length (runRow R.Ln)
  rp : w.ownsRow base 159 2 (.slice o.a2 R.Lp.length o.c2) R.Lp.length (runRow R.Lp)
  dn : w.ownsRow base 2 1 (.slice o.a3 R.tn.length o.c3) R.tn.length (ints64 R.tn)
  dp : w.ownsRow base 2 1 (.slice o.a4 R.tp.length o.c4) R.tp.length (ints64 R.tp)
theorem NOutIn.kept {w w' : World} {base : Nat} {R : NRec} {o : NOut} (H : NOutIn w base R o) {S : Nat → Prop} (ho : Only S w w') (hS : ∀ k, S k → k < base) : NOutIn w' base R o :=
  have f : ∀ {e s n : Nat} {v : Value} {xs : List Value}, w.ownsRow base e s v n xs → w'.ownsRow base e s v n xs := fun h => ho.ownsRow h (fun k hk hs => by have := (h.lt k hk).1; have := hS k hs; omega)
  ⟨f H.q, f H.rn, f H.rp, f H.dn, f H.dp⟩
theorem NOutIn.lower {w : World} {base base' : Nat} {R : NRec} {o : NOut} (H : NOutIn w base R o) (hb : base' ≤ base) : NOutIn w base' R o :=
  ⟨ownsRow_lower H.q hb, ownsRow_lower H.rn hb, ownsRow_lower H.rp hb, ownsRow_lower H.dn hb, ownsRow_lower H.dp hb⟩

section
variable (w0 : World) (R : NRec) (sch : Int)
/-- What a slot holds behind its operation. -/
def ok65n (w0 : World) (R : NRec) (sch : Int) (j : Nat) (v : Value) (w : World) : Prop :=
  match j with
  | 3 => v = .pointer (some ⟨w0.heap.size, 0, none⟩)
  | 4 => v = .int .u64 R.cnt
  | 5 => v = .pointer (some ⟨w0.heap.size, 1, none⟩)
  | 6 => v = .float .f64 R.sum
  | 7 => v = .pointer (some ⟨w0.heap.size, 2, none⟩)
  | 8 => v = .slice none 0 0
  | 10 => v = .pointer (some ⟨w0.heap.size, 3, none⟩)
  | 11 => v = .int .i64 R.created
  | 12 => v = .pointer (some ⟨w0.heap.size, 4, none⟩)
  | 13 => v = .bool true
  | 14 => v = .pointer (some ⟨w0.heap.size, 5, none⟩)
  | 15 => v = .int .i32 sch
  | 16 => v = .pointer (some ⟨w0.heap.size, 6, none⟩)
  | 17 => v = .float .f64 R.zt
  | 18 => v = .pointer (some ⟨w0.heap.size, 7, none⟩)
  | 19 => v = .int .u64 R.zc
  | 20 => v = .pointer (some ⟨w0.heap.size, 8, none⟩)
  | 21 => v = .slice R.a1 R.Ln.length R.c1
  | 23 => v = .pointer (some ⟨w0.heap.size, 9, none⟩)
  | 24 => v = .slice R.a2 R.Lp.length R.c2
  | 27 => v = .pointer (some ⟨w0.heap.size, 10, none⟩)
  | 28 => v = .slice R.a3 R.tn.length R.c3
  | 31 => v = .pointer (some ⟨w0.heap.size, 11, none⟩)
  | 32 => v = .slice R.a4 R.tp.length R.c4
  | 34 => v = .pointer (some ⟨w0.heap.size, 12, none⟩)
  | 35 => v = .slice none 0 0
  | 9 => ∃ a c, v = .slice a 0 c ∧ w.ownsRow (w0.heap.size + 2) 43 6 v 0 []
  | 22 => ∃ a c, v = .slice a R.Ln.length c ∧ w.ownsRow (w0.heap.size + 2) 159 2 v R.Ln.length (runRow R.Ln)
  | 25 => ∃ a c, v = .slice a R.Lp.length c ∧ w.ownsRow (w0.heap.size + 2) 159 2 v R.Lp.length (runRow R.Lp)
  | 29 => ∃ a c, v = .slice a R.tn.length c ∧ w.ownsRow (w0.heap.size + 2) 2 1 v R.tn.length (ints64 R.tn)
  | 33 => ∃ a c, v = .slice a R.tp.length c ∧ w.ownsRow (w0.heap.size + 2) 2 1 v R.tp.length (ints64 R.tp)
  | 36 => v = .slice none 0 0
  | 26 => ∃ b, v = .slice (some ⟨b, 0, none⟩) 0 0 ∧ w.ownsRow (w0.heap.size + 2) 2 1 v 0 []
  | 30 => ∃ b, v = .slice (some ⟨b, 0, none⟩) 0 0 ∧ w.ownsRow (w0.heap.size + 2) 2 1 v 0 []
  | 37 => ∃ o : NOut, v = .agg #[.int .u64 R.cnt, .float .f64 R.sum, .slice o.qa 0 o.qc, .int .i64 R.created, .bool true, .int .i32 sch, .float .f64 R.zt, .int .u64 R.zc, .slice o.a1 R.Ln.length o.c1, .slice o.a2 R.Lp.length o.c2, .slice o.a3 R.tn.length o.c3, .slice o.a4 R.tp.length o.c4, .slice none 0 0] ∧ NOutIn w (w0.heap.size + 2) R o
  | _ => True
theorem ok65n_mono {j : Nat} {v : Value} {w w' : World} {S : Nat → Prop} (h : ok65n w0 R sch j v w) (ho : Only S w w') (hS : ∀ k, S k → k < w0.heap.size + 2) : ok65n w0 R sch j v w' := by
  unfold ok65n at h ⊢
  split at h <;> first
    | exact h
    | (obtain ⟨o, h1, h2⟩ := h; exact ⟨o, h1, h2.kept ho hS⟩)
    | (obtain ⟨a, c, h1, h2⟩ := h; exact ⟨a, c, h1, ho.ownsRow h2 (fun k hk hs => by have := (h2.lt k hk).1; have := hS k hs; omega)⟩)
    | (obtain ⟨b, h1, h2⟩ := h; exact ⟨b, h1, ho.ownsRow h2 (fun k hk hs => by have := (h2.lt k hk).1; have := hS k hs; omega)⟩)
/-- The cells that came in. -/
def nVals (R : NRec) (sch : Int) : List Value := [.int .u64 R.cnt, .float .f64 R.sum, .slice none 0 0, .int .i64 R.created, .bool true, .int .i32 sch, .float .f64 R.zt, .int .u64 R.zc, .slice R.a1 R.Ln.length R.c1, .slice R.a2 R.Lp.length R.c2, .slice R.a3 R.tn.length R.c3, .slice R.a4 R.tp.length R.c4, .slice none 0 0]
/-- Between two operations. -/
structure In65n (w0 : World) (R : NRec) (sch : Int) (L : Nat → Bool) (s : Nat → Value) (w : World) : Prop where
  blk : IsBlock w w0.heap.size (nVals R sch)
  only : Only (fun _ => False) w0 w
  size : w0.heap.size + 2 ≤ w.heap.size
  ok : ∀ i, i < 35 → L i = true → ok65n w0 R sch (i + 3) (s (i + 3)) w
  res0 : L 35 = false → IsBlock w (w0.heap.size + 1) (hVals 0 0 (.slice none 0 0) 0)
  res1 : L 35 = true → ∃ o : NOut, IsBlock w (w0.heap.size + 1) (nOut R sch o) ∧ NOutIn w (w0.heap.size + 2) R o
def Inv65n (w0 : World) (R : NRec) (sch : Int) (x : Value) (L : Nat → Bool) (a : Act) (w : World) : Prop :=
  ∃ s, a = fr65 w0 x s ∧ In65n w0 R sch L s w
theorem In65n.put {w0 : World} {R : NRec} {sch : Int} {L : Nat → Bool} {s : Nat → Value} {w w' : World} (h : In65n w0 R sch L s w)
    (i : Nat) (hi : i < 35) (v : Value) (ho : Only (fun _ => False) w w') (hv : ok65n w0 R sch (i + 3) v w') : In65n w0 R sch (upd L i) (putS s (i + 3) v) w' where
  blk := ho.isBlock h.blk id
  only := h.only.trans ho
  size := Nat.le_trans h.size ho.size
  ok := fun k hk hL => by
    by_cases e : k = i
    · subst e
      have : putS s (k + 3) v (k + 3) = v := if_pos rfl
      rw [this]; exact hv
    · have : putS s (i + 3) v (k + 3) = s (k + 3) := if_neg (by omega)
      rw [this]
      rw [upd_ne L e] at hL
      exact ok65n_mono _ _ _ (h.ok k hk hL) ho (fun _ h => h.elim)
  res0 := fun hL => by
    rw [upd_ne L (by omega)] at hL
    exact ho.isBlock (h.res0 hL) id
  res1 := fun hL => by
    rw [upd_ne L (by omega)] at hL
    obtain ⟨o, h1, h2⟩ := h.res1 hL
    exact ⟨o, ho.isBlock h1 id, h2.kept ho (fun _ h => h.elim)⟩
end
theorem In65n.stored {w0 : World} {R : NRec} {sch : Int} {L : Nat → Bool} {s : Nat → Value} {w : World} (h : In65n w0 R sch L s w)
    (o : NOut) (hz : IsBlock w (w0.heap.size + 1) (hVals 0 0 (.slice none 0 0) 0)) (hq : NOutIn w (w0.heap.size + 2) R o) :
    In65n w0 R sch (upd L 35) s (put65 w (w0.heap.size + 1) (.int .u64 R.cnt) (.float .f64 R.sum) (.slice o.qa 0 o.qc) (.int .i64 R.created) (.bool true) (.int .i32 sch) (.float .f64 R.zt) (.int .u64 R.zc) (.slice o.a1 R.Ln.length o.c1) (.slice o.a2 R.Lp.length o.c2) (.slice o.a3 R.tn.length o.c3) (.slice o.a4 R.tp.length o.c4) (.slice none 0 0)) where
  blk := (stored_one w _ _ _ _ _ _ _ _ _ _ _ _ _ _).isBlock h.blk (fun e => by omega)
  only := stored_only h.only (Nat.le_succ _) _ _ _ _ _ _ _ _ _ _ _ _ _
  size := Nat.le_trans h.size (stored_one w _ _ _ _ _ _ _ _ _ _ _ _ _ _).size
  ok := fun k hk hL => by
    rw [upd_ne L (by omega)] at hL
    exact ok65n_mono _ _ _ (h.ok k hk hL) (stored_one w _ _ _ _ _ _ _ _ _ _ _ _ _ _) (fun k e => by omega)
  res0 := fun hL => by rw [upd_self] at hL; cases hL
  res1 := fun _ => ⟨o, stored_blk hz _ _ _ _ _ _ _ _ _ _ _ _ _, hq.kept (stored_one w _ _ _ _ _ _ _ _ _ _ _ _ _ _) (fun k e => by omega)⟩

set_option maxRecDepth 100000 in
set_option maxHeartbeats 1600000 in
theorem st65n_0 (w0 : World) (R : NRec) (sch : Int) (x : Value) (Q : Exit → Act → World → Prop) (L : Nat → Bool) (s : Nat → Value) (w : World) (h : In65n w0 R sch L s w) (_ : L 0 = false) (_ : ∀ j ∈ depsOf .any (opsAt Tryz.f65) 0, L j = true) :
    wpOp Tryz.prog (opsAt Tryz.f65) Q 0 (Inv65n w0 R sch x (upd L 0)) (fr65 w0 x s) w := by
  simp only [opsAt, Tryz.f65]
  refine wpOp_step rfl (fun K' hK' => ?_)
  unfold fr65
  go_simp
  exact hK' _ _ ⟨_, rfl, h.put 0 (by decide) _ (Only.refl _ _) rfl⟩
set_option maxRecDepth 100000 in
set_option maxHeartbeats 1600000 in
theorem st65n_1 (w0 : World) (R : NRec) (sch : Int) (x : Value) (Q : Exit → Act → World → Prop) (L : Nat → Bool) (s : Nat → Value) (w : World) (h : In65n w0 R sch L s w) (_ : L 1 = false) (hd : ∀ j ∈ depsOf .any (opsAt Tryz.f65) 1, L j = true) :
    wpOp Tryz.prog (opsAt Tryz.f65) Q 1 (Inv65n w0 R sch x (upd L 1)) (fr65 w0 x s) w := by
  have c := h.blk.cell (i := 0) rfl
  have e : s 3 = .pointer (some ⟨w0.heap.size, 0, none⟩) := h.ok 0 (by decide) (hd 0 (of_decide_eq_true (by kernel_rfl)))
  simp only [opsAt, Tryz.f65]
  refine wpOp_step rfl (fun K' hK' => ?_)
  unfold fr65
  go_simp
  refine hK' _ _ ⟨_, ?_, h.put 1 (by decide) _ (Only.refl _ _) rfl⟩
  simp [fr65, putS, e]
set_option maxRecDepth 100000 in
set_option maxHeartbeats 1600000 in
theorem st65n_2 (w0 : World) (R : NRec) (sch : Int) (x : Value) (Q : Exit → Act → World → Prop) (L : Nat → Bool) (s : Nat → Value) (w : World) (h : In65n w0 R sch L s w) (_ : L 2 = false) (_ : ∀ j ∈ depsOf .any (opsAt Tryz.f65) 2, L j = true) :
    wpOp Tryz.prog (opsAt Tryz.f65) Q 2 (Inv65n w0 R sch x (upd L 2)) (fr65 w0 x s) w := by
  simp only [opsAt, Tryz.f65]
  refine wpOp_step rfl (fun K' hK' => ?_)
  unfold fr65
  go_simp
  exact hK' _ _ ⟨_, rfl, h.put 2 (by decide) _ (Only.refl _ _) rfl⟩
set_option maxRecDepth 100000 in
set_option maxHeartbeats 1600000 in
theorem st65n_3 (w0 : World) (R : NRec) (sch : Int) (x : Value) (Q : Exit → Act → World → Prop) (L : Nat → Bool) (s : Nat → Value) (w : World) (h : In65n w0 R sch L s w) (_ : L 3 = false) (hd : ∀ j ∈ depsOf .any (opsAt Tryz.f65) 3, L j = true) :
    wpOp Tryz.prog (opsAt Tryz.f65) Q 3 (Inv65n w0 R sch x (upd L 3)) (fr65 w0 x s) w := by
  have c := h.blk.cell (i := 1) rfl
  have e : s 5 = .pointer (some ⟨w0.heap.size, 1, none⟩) := h.ok 2 (by decide) (hd 2 (of_decide_eq_true (by kernel_rfl)))
  simp only [opsAt, Tryz.f65]
  refine wpOp_step rfl (fun K' hK' => ?_)
  unfold fr65
  go_simp
  refine hK' _ _ ⟨_, ?_, h.put 3 (by decide) _ (Only.refl _ _) rfl⟩
  simp [fr65, putS, e]
set_option maxRecDepth 100000 in
set_option maxHeartbeats 1600000 in
theorem st65n_4 (w0 : World) (R : NRec) (sch : Int) (x : Value) (Q : Exit → Act → World → Prop) (L : Nat → Bool) (s : Nat → Value) (w : World) (h : In65n w0 R sch L s w) (_ : L 4 = false) (_ : ∀ j ∈ depsOf .any (opsAt Tryz.f65) 4, L j = true) :
    wpOp Tryz.prog (opsAt Tryz.f65) Q 4 (Inv65n w0 R sch x (upd L 4)) (fr65 w0 x s) w := by
  simp only [opsAt, Tryz.f65]
  refine wpOp_step rfl (fun K' hK' => ?_)
  unfold fr65
  go_simp
  exact hK' _ _ ⟨_, rfl, h.put 4 (by decide) _ (Only.refl _ _) rfl⟩
set_option maxRecDepth 100000 in
set_option maxHeartbeats 1600000 in
theorem st65n_5 (w0 : World) (R : NRec) (sch : Int) (x : Value) (Q : Exit → Act → World → Prop) (L : Nat → Bool) (s : Nat → Value) (w : World) (h : In65n w0 R sch L s w) (_ : L 5 = false) (hd : ∀ j ∈ depsOf .any (opsAt Tryz.f65) 5, L j = true) :
    wpOp Tryz.prog (opsAt Tryz.f65) Q 5 (Inv65n w0 R sch x (upd L 5)) (fr65 w0 x s) w := by
  have c := h.blk.cell (i := 2) rfl
  have e : s 7 = .pointer (some ⟨w0.heap.size, 2, none⟩) := h.ok 4 (by decide) (hd 4 (of_decide_eq_true (by kernel_rfl)))
  simp only [opsAt, Tryz.f65]
  refine wpOp_step rfl (fun K' hK' => ?_)
  unfold fr65
  go_simp
  refine hK' _ _ ⟨_, ?_, h.put 5 (by decide) _ (Only.refl _ _) rfl⟩
  simp [fr65, putS, e]
set_option maxRecDepth 100000 in
set_option maxHeartbeats 1600000 in
theorem st65n_7 (w0 : World) (R : NRec) (sch : Int) (x : Value) (Q : Exit → Act → World → Prop) (L : Nat → Bool) (s : Nat → Value) (w : World) (h : In65n w0 R sch L s w) (_ : L 7 = false) (_ : ∀ j ∈ depsOf .any (opsAt Tryz.f65) 7, L j = true) :
    wpOp Tryz.prog (opsAt Tryz.f65) Q 7 (Inv65n w0 R sch x (upd L 7)) (fr65 w0 x s) w := by
  simp only [opsAt, Tryz.f65]
  refine wpOp_step rfl (fun K' hK' => ?_)
  unfold fr65
  go_simp
  exact hK' _ _ ⟨_, rfl, h.put 7 (by decide) _ (Only.refl _ _) rfl⟩
set_option maxRecDepth 100000 in
set_option maxHeartbeats 1600000 in
theorem st65n_8 (w0 : World) (R : NRec) (sch : Int) (x : Value) (Q : Exit → Act → World → Prop) (L : Nat → Bool) (s : Nat → Value) (w : World) (h : In65n w0 R sch L s w) (_ : L 8 = false) (hd : ∀ j ∈ depsOf .any (opsAt Tryz.f65) 8, L j = true) :
    wpOp Tryz.prog (opsAt Tryz.f65) Q 8 (Inv65n w0 R sch x (upd L 8)) (fr65 w0 x s) w := by
  have c := h.blk.cell (i := 3) rfl
  have e : s 10 = .pointer (some ⟨w0.heap.size, 3, none⟩) := h.ok 7 (by decide) (hd 7 (of_decide_eq_true (by kernel_rfl)))
  simp only [opsAt, Tryz.f65]
  refine wpOp_step rfl (fun K' hK' => ?_)
  unfold fr65
  go_simp
  refine hK' _ _ ⟨_, ?_, h.put 8 (by decide) _ (Only.refl _ _) rfl⟩
  simp [fr65, putS, e]
set_option maxRecDepth 100000 in
set_option maxHeartbeats 1600000 in
theorem st65n_9 (w0 : World) (R : NRec) (sch : Int) (x : Value) (Q : Exit → Act → World → Prop) (L : Nat → Bool) (s : Nat → Value) (w : World) (h : In65n w0 R sch L s w) (_ : L 9 = false) (_ : ∀ j ∈ depsOf .any (opsAt Tryz.f65) 9, L j = true) :
    wpOp Tryz.prog (opsAt Tryz.f65) Q 9 (Inv65n w0 R sch x (upd L 9)) (fr65 w0 x s) w := by
  simp only [opsAt, Tryz.f65]
  refine wpOp_step rfl (fun K' hK' => ?_)
  unfold fr65
  go_simp
  exact hK' _ _ ⟨_, rfl, h.put 9 (by decide) _ (Only.refl _ _) rfl⟩
set_option maxRecDepth 100000 in
set_option maxHeartbeats 1600000 in
theorem st65n_10 (w0 : World) (R : NRec) (sch : Int) (x : Value) (Q : Exit → Act → World → Prop) (L : Nat → Bool) (s : Nat → Value) (w : World) (h : In65n w0 R sch L s w) (_ : L 10 = false) (hd : ∀ j ∈ depsOf .any (opsAt Tryz.f65) 10, L j = true) :
    wpOp Tryz.prog (opsAt Tryz.f65) Q 10 (Inv65n w0 R sch x (upd L 10)) (fr65 w0 x s) w := by
  have c := h.blk.cell (i := 4) rfl
  have e : s 12 = .pointer (some ⟨w0.heap.size, 4, none⟩) := h.ok 9 (by decide) (hd 9 (of_decide_eq_true (by kernel_rfl)))
  simp only [opsAt, Tryz.f65]
  refine wpOp_step rfl (fun K' hK' => ?_)
  unfold fr65
  go_simp
  refine hK' _ _ ⟨_, ?_, h.put 10 (by decide) _ (Only.refl _ _) rfl⟩
  simp [fr65, putS, e]
set_option maxRecDepth 100000 in
set_option maxHeartbeats 1600000 in
theorem st65n_11 (w0 : World) (R : NRec) (sch : Int) (x : Value) (Q : Exit → Act → World → Prop) (L : Nat → Bool) (s : Nat → Value) (w : World) (h : In65n w0 R sch L s w) (_ : L 11 = false) (_ : ∀ j ∈ depsOf .any (opsAt Tryz.f65) 11, L j = true) :
    wpOp Tryz.prog (opsAt Tryz.f65) Q 11 (Inv65n w0 R sch x (upd L 11)) (fr65 w0 x s) w := by
  simp only [opsAt, Tryz.f65]
  refine wpOp_step rfl (fun K' hK' => ?_)
  unfold fr65
  go_simp
  exact hK' _ _ ⟨_, rfl, h.put 11 (by decide) _ (Only.refl _ _) rfl⟩
set_option maxRecDepth 100000 in
set_option maxHeartbeats 1600000 in
theorem st65n_12 (w0 : World) (R : NRec) (sch : Int) (x : Value) (Q : Exit → Act → World → Prop) (L : Nat → Bool) (s : Nat → Value) (w : World) (h : In65n w0 R sch L s w) (_ : L 12 = false) (hd : ∀ j ∈ depsOf .any (opsAt Tryz.f65) 12, L j = true) :
    wpOp Tryz.prog (opsAt Tryz.f65) Q 12 (Inv65n w0 R sch x (upd L 12)) (fr65 w0 x s) w := by
  have c := h.blk.cell (i := 5) rfl
  have e : s 14 = .pointer (some ⟨w0.heap.size, 5, none⟩) := h.ok 11 (by decide) (hd 11 (of_decide_eq_true (by kernel_rfl)))
  simp only [opsAt, Tryz.f65]
  refine wpOp_step rfl (fun K' hK' => ?_)
  unfold fr65
  go_simp
  refine hK' _ _ ⟨_, ?_, h.put 12 (by decide) _ (Only.refl _ _) rfl⟩
  simp [fr65, putS, e]
set_option maxRecDepth 100000 in
set_option maxHeartbeats 1600000 in
theorem st65n_13 (w0 : World) (R : NRec) (sch : Int) (x : Value) (Q : Exit → Act → World → Prop) (L : Nat → Bool) (s : Nat → Value) (w : World) (h : In65n w0 R sch L s w) (_ : L 13 = false) (_ : ∀ j ∈ depsOf .any (opsAt Tryz.f65) 13, L j = true) :
    wpOp Tryz.prog (opsAt Tryz.f65) Q 13 (Inv65n w0 R sch x (upd L 13)) (fr65 w0 x s) w := by
  simp only [opsAt, Tryz.f65]
  refine wpOp_step rfl (fun K' hK' => ?_)
  unfold fr65
  go_simp
  exact hK' _ _ ⟨_, rfl, h.put 13 (by decide) _ (Only.refl _ _) rfl⟩
set_option maxRecDepth 100000 in
set_option maxHeartbeats 1600000 in
theorem st65n_14 (w0 : World) (R : NRec) (sch : Int) (x : Value) (Q : Exit → Act → World → Prop) (L : Nat → Bool) (s : Nat → Value) (w : World) (h : In65n w0 R sch L s w) (_ : L 14 = false) (hd : ∀ j ∈ depsOf .any (opsAt Tryz.f65) 14, L j = true) :
    wpOp Tryz.prog (opsAt Tryz.f65) Q 14 (Inv65n w0 R sch x (upd L 14)) (fr65 w0 x s) w := by
  have c := h.blk.cell (i := 6) rfl
  have e : s 16 = .pointer (some ⟨w0.heap.size, 6, none⟩) := h.ok 13 (by decide) (hd 13 (of_decide_eq_true (by kernel_rfl)))
  simp only [opsAt, Tryz.f65]
  refine wpOp_step rfl (fun K' hK' => ?_)
  unfold fr65
  go_simp
  refine hK' _ _ ⟨_, ?_, h.put 14 (by decide) _ (Only.refl _ _) rfl⟩
  simp [fr65, putS, e]
set_option maxRecDepth 100000 in
set_option maxHeartbeats 1600000 in
theorem st65n_15 (w0 : World) (R : NRec) (sch : Int) (x : Value) (Q : Exit → Act → World → Prop) (L : Nat → Bool) (s : Nat → Value) (w : World) (h : In65n w0 R sch L s w) (_ : L 15 = false) (_ : ∀ j ∈ depsOf .any (opsAt Tryz.f65) 15, L j = true) :
    wpOp Tryz.prog (opsAt Tryz.f65) Q 15 (Inv65n w0 R sch x (upd L 15)) (fr65 w0 x s) w := by
  simp only [opsAt, Tryz.f65]
  refine wpOp_step rfl (fun K' hK' => ?_)
  unfold fr65
  go_simp
  exact hK' _ _ ⟨_, rfl, h.put 15 (by decide) _ (Only.refl _ _) rfl⟩
set_option maxRecDepth 100000 in
set_option maxHeartbeats 1600000 in
theorem st65n_16 (w0 : World) (R : NRec) (sch : Int) (x : Value) (Q : Exit → Act → World → Prop) (L : Nat → Bool) (s : Nat → Value) (w : World) (h : In65n w0 R sch L s w) (_ : L 16 = false) (hd : ∀ j ∈ depsOf .any (opsAt Tryz.f65) 16, L j = true) :
    wpOp Tryz.prog (opsAt Tryz.f65) Q 16 (Inv65n w0 R sch x (upd L 16)) (fr65 w0 x s) w := by
  have c := h.blk.cell (i := 7) rfl
  have e : s 18 = .pointer (some ⟨w0.heap.size, 7, none⟩) := h.ok 15 (by decide) (hd 15 (of_decide_eq_true (by kernel_rfl)))
  simp only [opsAt, Tryz.f65]
  refine wpOp_step rfl (fun K' hK' => ?_)
  unfold fr65
  go_simp
  refine hK' _ _ ⟨_, ?_, h.put 16 (by decide) _ (Only.refl _ _) rfl⟩
  simp [fr65, putS, e]
set_option maxRecDepth 100000 in
set_option maxHeartbeats 1600000 in
theorem st65n_17 (w0 : World) (R : NRec) (sch : Int) (x : Value) (Q : Exit → Act → World → Prop) (L : Nat → Bool) (s : Nat → Value) (w : World) (h : In65n w0 R sch L s w) (_ : L 17 = false) (_ : ∀ j ∈ depsOf .any (opsAt Tryz.f65) 17, L j = true) :
    wpOp Tryz.prog (opsAt Tryz.f65) Q 17 (Inv65n w0 R sch x (upd L 17)) (fr65 w0 x s) w := by
  simp only [opsAt, Tryz.f65]
  refine wpOp_step rfl (fun K' hK' => ?_)
  unfold fr65
  go_simp
  exact hK' _ _ ⟨_, rfl, h.put 17 (by decide) _ (Only.refl _ _) rfl⟩
set_option maxRecDepth 100000 in
set_option maxHeartbeats 1600000 in
theorem st65n_18 (w0 : World) (R : NRec) (sch : Int) (x : Value) (Q : Exit → Act → World → Prop) (L : Nat → Bool) (s : Nat → Value) (w : World) (h : In65n w0 R sch L s w) (_ : L 18 = false) (hd : ∀ j ∈ depsOf .any (opsAt Tryz.f65) 18, L j = true) :
    wpOp Tryz.prog (opsAt Tryz.f65) Q 18 (Inv65n w0 R sch x (upd L 18)) (fr65 w0 x s) w := by
  have c := h.blk.cell (i := 8) rfl
  have e : s 20 = .pointer (some ⟨w0.heap.size, 8, none⟩) := h.ok 17 (by decide) (hd 17 (of_decide_eq_true (by kernel_rfl)))
  simp only [opsAt, Tryz.f65]
  refine wpOp_step rfl (fun K' hK' => ?_)
  unfold fr65
  go_simp
  refine hK' _ _ ⟨_, ?_, h.put 18 (by decide) _ (Only.refl _ _) rfl⟩
  simp [fr65, putS, e]
set_option maxRecDepth 100000 in
set_option maxHeartbeats 1600000 in
theorem st65n_20 (w0 : World) (R : NRec) (sch : Int) (x : Value) (Q : Exit → Act → World → Prop) (L : Nat → Bool) (s : Nat → Value) (w : World) (h : In65n w0 R sch L s w) (_ : L 20 = false) (_ : ∀ j ∈ depsOf .any (opsAt Tryz.f65) 20, L j = true) :
    wpOp Tryz.prog (opsAt Tryz.f65) Q 20 (Inv65n w0 R sch x (upd L 20)) (fr65 w0 x s) w := by
  simp only [opsAt, Tryz.f65]
  refine wpOp_step rfl (fun K' hK' => ?_)
  unfold fr65
  go_simp
  exact hK' _ _ ⟨_, rfl, h.put 20 (by decide) _ (Only.refl _ _) rfl⟩
set_option maxRecDepth 100000 in
set_option maxHeartbeats 1600000 in
theorem st65n_21 (w0 : World) (R : NRec) (sch : Int) (x : Value) (Q : Exit → Act → World → Prop) (L : Nat → Bool) (s : Nat → Value) (w : World) (h : In65n w0 R sch L s w) (_ : L 21 = false) (hd : ∀ j ∈ depsOf .any (opsAt Tryz.f65) 21, L j = true) :
    wpOp Tryz.prog (opsAt Tryz.f65) Q 21 (Inv65n w0 R sch x (upd L 21)) (fr65 w0 x s) w := by
  have c := h.blk.cell (i := 9) rfl
  have e : s 23 = .pointer (some ⟨w0.heap.size, 9, none⟩) := h.ok 20 (by decide) (hd 20 (of_decide_eq_true (by kernel_rfl)))
  simp only [opsAt, Tryz.f65]
  refine wpOp_step rfl (fun K' hK' => ?_)
  unfold fr65
  go_simp
  refine hK' _ _ ⟨_, ?_, h.put 21 (by decide) _ (Only.refl _ _) rfl⟩
  simp [fr65, putS, e]
set_option maxRecDepth 100000 in
set_option maxHeartbeats 1600000 in
theorem st65n_24 (w0 : World) (R : NRec) (sch : Int) (x : Value) (Q : Exit → Act → World → Prop) (L : Nat → Bool) (s : Nat → Value) (w : World) (h : In65n w0 R sch L s w) (_ : L 24 = false) (_ : ∀ j ∈ depsOf .any (opsAt Tryz.f65) 24, L j = true) :
    wpOp Tryz.prog (opsAt Tryz.f65) Q 24 (Inv65n w0 R sch x (upd L 24)) (fr65 w0 x s) w := by
  simp only [opsAt, Tryz.f65]
  refine wpOp_step rfl (fun K' hK' => ?_)
  unfold fr65
  go_simp
  exact hK' _ _ ⟨_, rfl, h.put 24 (by decide) _ (Only.refl _ _) rfl⟩
set_option maxRecDepth 100000 in
set_option maxHeartbeats 1600000 in
theorem st65n_25 (w0 : World) (R : NRec) (sch : Int) (x : Value) (Q : Exit → Act → World → Prop) (L : Nat → Bool) (s : Nat → Value) (w : World) (h : In65n w0 R sch L s w) (_ : L 25 = false) (hd : ∀ j ∈ depsOf .any (opsAt Tryz.f65) 25, L j = true) :
    wpOp Tryz.prog (opsAt Tryz.f65) Q 25 (Inv65n w0 R sch x (upd L 25)) (fr65 w0 x s) w := by
  have c := h.blk.cell (i := 10) rfl
  have e : s 27 = .pointer (some ⟨w0.heap.size, 10, none⟩) := h.ok 24 (by decide) (hd 24 (of_decide_eq_true (by kernel_rfl)))
  simp only [opsAt, Tryz.f65]
  refine wpOp_step rfl (fun K' hK' => ?_)
  unfold fr65
  go_simp
  refine hK' _ _ ⟨_, ?_, h.put 25 (by decide) _ (Only.refl _ _) rfl⟩
  simp [fr65, putS, e]
set_option maxRecDepth 100000 in
set_option maxHeartbeats 1600000 in
theorem st65n_28 (w0 : World) (R : NRec) (sch : Int) (x : Value) (Q : Exit → Act → World → Prop) (L : Nat → Bool) (s : Nat → Value) (w : World) (h : In65n w0 R sch L s w) (_ : L 28 = false) (_ : ∀ j ∈ depsOf .any (opsAt Tryz.f65) 28, L j = true) :
    wpOp Tryz.prog (opsAt Tryz.f65) Q 28 (Inv65n w0 R sch x (upd L 28)) (fr65 w0 x s) w := by
  simp only [opsAt, Tryz.f65]
  refine wpOp_step rfl (fun K' hK' => ?_)
  unfold fr65
  go_simp
  exact hK' _ _ ⟨_, rfl, h.put 28 (by decide) _ (Only.refl _ _) rfl⟩
set_option maxRecDepth 100000 in
set_option maxHeartbeats 1600000 in
theorem st65n_29 (w0 : World) (R : NRec) (sch : Int) (x : Value) (Q : Exit → Act → World → Prop) (L : Nat → Bool) (s : Nat → Value) (w : World) (h : In65n w0 R sch L s w) (_ : L 29 = false) (hd : ∀ j ∈ depsOf .any (opsAt Tryz.f65) 29, L j = true) :
    wpOp Tryz.prog (opsAt Tryz.f65) Q 29 (Inv65n w0 R sch x (upd L 29)) (fr65 w0 x s) w := by
  have c := h.blk.cell (i := 11) rfl
  have e : s 31 = .pointer (some ⟨w0.heap.size, 11, none⟩) := h.ok 28 (by decide) (hd 28 (of_decide_eq_true (by kernel_rfl)))
  simp only [opsAt, Tryz.f65]
  refine wpOp_step rfl (fun K' hK' => ?_)
  unfold fr65
  go_simp
  refine hK' _ _ ⟨_, ?_, h.put 29 (by decide) _ (Only.refl _ _) rfl⟩
  simp [fr65, putS, e]
set_option maxRecDepth 100000 in
set_option maxHeartbeats 1600000 in
theorem st65n_31 (w0 : World) (R : NRec) (sch : Int) (x : Value) (Q : Exit → Act → World → Prop) (L : Nat → Bool) (s : Nat → Value) (w : World) (h : In65n w0 R sch L s w) (_ : L 31 = false) (_ : ∀ j ∈ depsOf .any (opsAt Tryz.f65) 31, L j = true) :
    wpOp Tryz.prog (opsAt Tryz.f65) Q 31 (Inv65n w0 R sch x (upd L 31)) (fr65 w0 x s) w := by
  simp only [opsAt, Tryz.f65]
  refine wpOp_step rfl (fun K' hK' => ?_)
  unfold fr65
  go_simp
  exact hK' _ _ ⟨_, rfl, h.put 31 (by decide) _ (Only.refl _ _) rfl⟩
set_option maxRecDepth 100000 in
set_option maxHeartbeats 1600000 in
theorem st65n_32 (w0 : World) (R : NRec) (sch : Int) (x : Value) (Q : Exit → Act → World → Prop) (L : Nat → Bool) (s : Nat → Value) (w : World) (h : In65n w0 R sch L s w) (_ : L 32 = false) (hd : ∀ j ∈ depsOf .any (opsAt Tryz.f65) 32, L j = true) :
    wpOp Tryz.prog (opsAt Tryz.f65) Q 32 (Inv65n w0 R sch x (upd L 32)) (fr65 w0 x s) w := by
  have c := h.blk.cell (i := 12) rfl
  have e : s 34 = .pointer (some ⟨w0.heap.size, 12, none⟩) := h.ok 31 (by decide) (hd 31 (of_decide_eq_true (by kernel_rfl)))
  simp only [opsAt, Tryz.f65]
  refine wpOp_step rfl (fun K' hK' => ?_)
  unfold fr65
  go_simp
  refine hK' _ _ ⟨_, ?_, h.put 32 (by decide) _ (Only.refl _ _) rfl⟩
  simp [fr65, putS, e]
set_option maxRecDepth 100000 in
set_option maxHeartbeats 1600000 in
theorem st65n_6 (w0 : World) (R : NRec) (sch : Int) (x : Value) (Q : Exit → Act → World → Prop) (L : Nat → Bool) (s : Nat → Value) (w : World) (h : In65n w0 R sch L s w) (_ : L 6 = false) (hd : ∀ j ∈ depsOf .any (opsAt Tryz.f65) 6, L j = true) :
    wpOp Tryz.prog (opsAt Tryz.f65) Q 6 (Inv65n w0 R sch x (upd L 6)) (fr65 w0 x s) w := by
  have e : s 8 = .slice none 0 0 := h.ok 5 (by decide) (hd 5 (of_decide_eq_true (by kernel_rfl)))
  simp only [opsAt, Tryz.f65]
  refine wpOp_step rfl (fun K' hK' => ?_)
  unfold fr65
  go_simp
  go_at_call 84
  refine (bucketsFrom_plain (.slice none 0 0) [] w.heap.size w (World.ownsRow_nil _ _ _ _) (by decide)).mono ?_
  rintro e' w' ⟨q, rfl, hq, ho⟩
  obtain ⟨qa, qc, rfl⟩ := ownsRow_slice hq
  go_simp
  refine hK' _ _ ⟨_, ?_, h.put 6 (by decide) _ ho ⟨qa, qc, rfl, ownsRow_lower hq h.size⟩⟩
  simp [fr65, putS, e]
set_option maxRecDepth 100000 in
set_option maxHeartbeats 1600000 in
theorem st65n_19 (w0 : World) (R : NRec) (sch : Int) (x : Value) (Q : Exit → Act → World → Prop) (L : Nat → Bool) (s : Nat → Value) (w : World) (h : In65n w0 R sch L s w) (B : Nat) (hin : NRIn w0 B R) (_ : L 19 = false) (hd : ∀ j ∈ depsOf .any (opsAt Tryz.f65) 19, L j = true) :
    wpOp Tryz.prog (opsAt Tryz.f65) Q 19 (Inv65n w0 R sch x (upd L 19)) (fr65 w0 x s) w := by
  have e : s 21 = .slice R.a1 R.Ln.length R.c1 := h.ok 18 (by decide) (hd 18 (of_decide_eq_true (by kernel_rfl)))
  have hr : w.ownsRow B 213 2 (.slice R.a1 R.Ln.length R.c1) R.Ln.length (runRow R.Ln) := h.only.ownsRow hin.rn (fun _ _ => id)
  have hln := hin.len
  simp only [opsAt, Tryz.f65]
  refine wpOp_step rfl (fun K' hK' => ?_)
  unfold fr65
  go_simp
  go_at_call 85
  refine (runsFrom_any _ R.Ln B w hr (by omega)).mono ?_
  rintro e' w' ⟨q, rfl, hq, ho⟩
  obtain ⟨qa, qc, rfl⟩ := ownsRow_slice hq
  go_simp
  refine hK' _ _ ⟨_, ?_, h.put 19 (by decide) _ ho ⟨qa, qc, rfl, ownsRow_lower hq h.size⟩⟩
  simp [fr65, putS, e]
set_option maxRecDepth 100000 in
set_option maxHeartbeats 1600000 in
theorem st65n_22 (w0 : World) (R : NRec) (sch : Int) (x : Value) (Q : Exit → Act → World → Prop) (L : Nat → Bool) (s : Nat → Value) (w : World) (h : In65n w0 R sch L s w) (B : Nat) (hin : NRIn w0 B R) (_ : L 22 = false) (hd : ∀ j ∈ depsOf .any (opsAt Tryz.f65) 22, L j = true) :
    wpOp Tryz.prog (opsAt Tryz.f65) Q 22 (Inv65n w0 R sch x (upd L 22)) (fr65 w0 x s) w := by
  have e : s 24 = .slice R.a2 R.Lp.length R.c2 := h.ok 21 (by decide) (hd 21 (of_decide_eq_true (by kernel_rfl)))
  have hr : w.ownsRow B 213 2 (.slice R.a2 R.Lp.length R.c2) R.Lp.length (runRow R.Lp) := h.only.ownsRow hin.rp (fun _ _ => id)
  have hln := hin.len
  simp only [opsAt, Tryz.f65]
  refine wpOp_step rfl (fun K' hK' => ?_)
  unfold fr65
  go_simp
  go_at_call 85
  refine (runsFrom_any _ R.Lp B w hr (by omega)).mono ?_
  rintro e' w' ⟨q, rfl, hq, ho⟩
  obtain ⟨qa, qc, rfl⟩ := ownsRow_slice hq
  go_simp
  refine hK' _ _ ⟨_, ?_, h.put 22 (by decide) _ ho ⟨qa, qc, rfl, ownsRow_lower hq h.size⟩⟩
  simp [fr65, putS, e]
set_option maxRecDepth 100000 in
set_option maxHeartbeats 1600000 in
theorem st65n_33 (w0 : World) (R : NRec) (sch : Int) (x : Value) (Q : Exit → Act → World → Prop) (L : Nat → Bool) (s : Nat → Value) (w : World) (h : In65n w0 R sch L s w) (_ : L 33 = false) (hd : ∀ j ∈ depsOf .any (opsAt Tryz.f65) 33, L j = true) :
    wpOp Tryz.prog (opsAt Tryz.f65) Q 33 (Inv65n w0 R sch x (upd L 33)) (fr65 w0 x s) w := by
  have e : s 35 = .slice none 0 0 := h.ok 32 (by decide) (hd 32 (of_decide_eq_true (by kernel_rfl)))
  simp only [opsAt, Tryz.f65]
  refine wpOp_step rfl (fun K' hK' => ?_)
  unfold fr65
  go_simp
  go_at_call 86
  refine (marksFrom_nil _).mono ?_
  rintro e' w' ⟨rfl, rfl⟩
  go_simp
  refine hK' _ _ ⟨_, ?_, h.put 33 (by decide) _ (Only.refl _ _) rfl⟩
  simp [fr65, putS, e]
set_option maxRecDepth 100000 in
set_option maxHeartbeats 1600000 in
theorem st65n_23 (w0 : World) (R : NRec) (sch : Int) (x : Value) (Q : Exit → Act → World → Prop) (L : Nat → Bool) (s : Nat → Value) (w : World) (h : In65n w0 R sch L s w) (_ : L 23 = false) (_ : ∀ j ∈ depsOf .any (opsAt Tryz.f65) 23, L j = true) :
    wpOp Tryz.prog (opsAt Tryz.f65) Q 23 (Inv65n w0 R sch x (upd L 23)) (fr65 w0 x s) w := by
  simp only [opsAt, Tryz.f65]
  refine wpOp_step rfl (fun K' hK' => ?_)
  unfold fr65
  go_simp
  exact hK' _ _ ⟨_, rfl, h.put 23 (by decide) _ ((Only.refl _ _).alloc _) ⟨w.heap.size, rfl, ownsRow_lower (World.ownsRow_made w #[] 0 (Nat.le_refl _) (Nat.zero_le _) rfl) h.size⟩⟩
set_option maxRecDepth 100000 in
set_option maxHeartbeats 1600000 in
theorem st65n_27 (w0 : World) (R : NRec) (sch : Int) (x : Value) (Q : Exit → Act → World → Prop) (L : Nat → Bool) (s : Nat → Value) (w : World) (h : In65n w0 R sch L s w) (_ : L 27 = false) (_ : ∀ j ∈ depsOf .any (opsAt Tryz.f65) 27, L j = true) :
    wpOp Tryz.prog (opsAt Tryz.f65) Q 27 (Inv65n w0 R sch x (upd L 27)) (fr65 w0 x s) w := by
  simp only [opsAt, Tryz.f65]
  refine wpOp_step rfl (fun K' hK' => ?_)
  unfold fr65
  go_simp
  exact hK' _ _ ⟨_, rfl, h.put 27 (by decide) _ ((Only.refl _ _).alloc _) ⟨w.heap.size, rfl, ownsRow_lower (World.ownsRow_made w #[] 0 (Nat.le_refl _) (Nat.zero_le _) rfl) h.size⟩⟩
set_option maxRecDepth 100000 in
set_option maxHeartbeats 1600000 in
theorem st65n_26 (w0 : World) (R : NRec) (sch : Int) (x : Value) (Q : Exit → Act → World → Prop) (L : Nat → Bool) (s : Nat → Value) (w : World) (h : In65n w0 R sch L s w) (B : Nat) (hin : NRIn w0 B R) (_ : L 26 = false) (hd : ∀ j ∈ depsOf .any (opsAt Tryz.f65) 26, L j = true) :
    wpOp Tryz.prog (opsAt Tryz.f65) Q 26 (Inv65n w0 R sch x (upd L 26)) (fr65 w0 x s) w := by
  obtain ⟨i2, hi, hz0, hz1, hz2⟩ := info_parts info2'
  obtain ⟨b, e, hrow⟩ : ∃ b, s 26 = .slice (some ⟨b, 0, none⟩) 0 0 ∧ w.ownsRow (w0.heap.size + 2) 2 1 (s 26) 0 [] := h.ok 23 (by decide) (hd 23 (of_decide_eq_true (by kernel_rfl)))
  have e2 : s 28 = .slice R.a3 R.tn.length R.c3 := h.ok 25 (by decide) (hd 25 (of_decide_eq_true (by kernel_rfl)))
  have hsrc : SrcIs w (s 28) 1 R.tn.length (ints64 R.tn) := by rw [e2]; exact src_of_owns (h.only.ownsRow hin.dn (fun _ _ => id))
  have hln := hin.len
  rw [e] at hrow
  simp only [opsAt, Tryz.f65]
  refine wpOp_step (o := ?o) ?ho (fun K' hK' => ?_)
  case ho => conv => (lhs; whnf; arg 1; whnf)
  refine step_into_empty w (by rfl) _ _ _ (by rfl) (w0.heap.size + 2) 2 i2 _ 1 8 Tryz.underlying33 hi hz0 hz1 hz2 rfl (by omega) b (by exact e) hrow (s 28) R.tn.length (ints64 R.tn) (by rfl) hsrc (one_ints R.tn) (by unfold maxLen; omega) (by omega) h.size ?_
  intro v' w' hown ho
  obtain ⟨ta, tc, rfl⟩ := ownsRow_slice hown
  refine hK' _ _ ⟨_, ?_, h.put 26 (by decide) _ ho ⟨ta, tc, rfl, hown⟩⟩
  rfl
set_option maxRecDepth 100000 in
set_option maxHeartbeats 1600000 in
theorem st65n_30 (w0 : World) (R : NRec) (sch : Int) (x : Value) (Q : Exit → Act → World → Prop) (L : Nat → Bool) (s : Nat → Value) (w : World) (h : In65n w0 R sch L s w) (B : Nat) (hin : NRIn w0 B R) (_ : L 30 = false) (hd : ∀ j ∈ depsOf .any (opsAt Tryz.f65) 30, L j = true) :
    wpOp Tryz.prog (opsAt Tryz.f65) Q 30 (Inv65n w0 R sch x (upd L 30)) (fr65 w0 x s) w := by
  obtain ⟨i2, hi, hz0, hz1, hz2⟩ := info_parts info2'
  obtain ⟨b, e, hrow⟩ : ∃ b, s 30 = .slice (some ⟨b, 0, none⟩) 0 0 ∧ w.ownsRow (w0.heap.size + 2) 2 1 (s 30) 0 [] := h.ok 27 (by decide) (hd 27 (of_decide_eq_true (by kernel_rfl)))
  have e2 : s 32 = .slice R.a4 R.tp.length R.c4 := h.ok 29 (by decide) (hd 29 (of_decide_eq_true (by kernel_rfl)))
  have hsrc : SrcIs w (s 32) 1 R.tp.length (ints64 R.tp) := by rw [e2]; exact src_of_owns (h.only.ownsRow hin.dp (fun _ _ => id))
  have hln := hin.len
  rw [e] at hrow
  simp only [opsAt, Tryz.f65]
  refine wpOp_step (o := ?o) ?ho (fun K' hK' => ?_)
  case ho => conv => (lhs; whnf; arg 1; whnf)
  refine step_into_empty w (by rfl) _ _ _ (by rfl) (w0.heap.size + 2) 2 i2 _ 1 8 Tryz.underlying33 hi hz0 hz1 hz2 rfl (by omega) b (by exact e) hrow (s 32) R.tp.length (ints64 R.tp) (by rfl) hsrc (one_ints R.tp) (by unfold maxLen; omega) (by omega) h.size ?_
  intro v' w' hown ho
  obtain ⟨ta, tc, rfl⟩ := ownsRow_slice hown
  refine hK' _ _ ⟨_, ?_, h.put 30 (by decide) _ ho ⟨ta, tc, rfl, hown⟩⟩
  rfl
set_option maxRecDepth 100000 in
set_option maxHeartbeats 1600000 in
theorem st65n_34 (w0 : World) (R : NRec) (sch : Int) (x : Value) (Q : Exit → Act → World → Prop) (L : Nat → Bool) (s : Nat → Value) (w : World) (h : In65n w0 R sch L s w) (_ : L 34 = false) (hd : ∀ j ∈ depsOf .any (opsAt Tryz.f65) 34, L j = true) :
    wpOp Tryz.prog (opsAt Tryz.f65) Q 34 (Inv65n w0 R sch x (upd L 34)) (fr65 w0 x s) w := by
  have e4 : s 4 = .int .u64 R.cnt := h.ok 1 (by decide) (hd 1 (of_decide_eq_true (by kernel_rfl)))
  have e6 : s 6 = .float .f64 R.sum := h.ok 3 (by decide) (hd 3 (of_decide_eq_true (by kernel_rfl)))
  obtain ⟨aq, cq, e9, hq⟩ : ∃ a c, (s 9) = .slice a 0 c ∧ w.ownsRow (w0.heap.size + 2) 43 6 (s 9) 0 [] := h.ok 6 (by decide) (hd 6 (of_decide_eq_true (by kernel_rfl)))
  have e11 : s 11 = .int .i64 R.created := h.ok 8 (by decide) (hd 8 (of_decide_eq_true (by kernel_rfl)))
  have e13 : s 13 = .bool true := h.ok 10 (by decide) (hd 10 (of_decide_eq_true (by kernel_rfl)))
  have e15 : s 15 = .int .i32 sch := h.ok 12 (by decide) (hd 12 (of_decide_eq_true (by kernel_rfl)))
  have e17 : s 17 = .float .f64 R.zt := h.ok 14 (by decide) (hd 14 (of_decide_eq_true (by kernel_rfl)))
  have e19 : s 19 = .int .u64 R.zc := h.ok 16 (by decide) (hd 16 (of_decide_eq_true (by kernel_rfl)))
  obtain ⟨a1, c1, e22, h1⟩ : ∃ a c, (s 22) = .slice a R.Ln.length c ∧ w.ownsRow (w0.heap.size + 2) 159 2 (s 22) R.Ln.length (runRow R.Ln) := h.ok 19 (by decide) (hd 19 (of_decide_eq_true (by kernel_rfl)))
  obtain ⟨a2, c2, e25, h2⟩ : ∃ a c, (s 25) = .slice a R.Lp.length c ∧ w.ownsRow (w0.heap.size + 2) 159 2 (s 25) R.Lp.length (runRow R.Lp) := h.ok 22 (by decide) (hd 22 (of_decide_eq_true (by kernel_rfl)))
  obtain ⟨a3, c3, e29, h3⟩ : ∃ a c, (s 29) = .slice a R.tn.length c ∧ w.ownsRow (w0.heap.size + 2) 2 1 (s 29) R.tn.length (ints64 R.tn) := h.ok 26 (by decide) (hd 26 (of_decide_eq_true (by kernel_rfl)))
  obtain ⟨a4, c4, e33, h4⟩ : ∃ a c, (s 33) = .slice a R.tp.length c ∧ w.ownsRow (w0.heap.size + 2) 2 1 (s 33) R.tp.length (ints64 R.tp) := h.ok 30 (by decide) (hd 30 (of_decide_eq_true (by kernel_rfl)))
  have e36 : s 36 = .slice none 0 0 := h.ok 33 (by decide) (hd 33 (of_decide_eq_true (by kernel_rfl)))
  rw [e9] at hq
  rw [e22] at h1
  rw [e25] at h2
  rw [e29] at h3
  rw [e33] at h4
  simp only [opsAt, Tryz.f65]
  refine wpOp_step rfl (fun K' hK' => ?_)
  unfold fr65
  go_simp
  refine hK' _ _ ⟨_, ?_, h.put 34 (by decide) _ (Only.refl _ _) ⟨⟨aq, cq, a1, c1, a2, c2, a3, c3, a4, c4⟩, rfl, ⟨hq, h1, h2, h3, h4⟩⟩⟩
  simp [fr65, putS, e4, e6, e9, e11, e13, e15, e17, e19, e22, e25, e29, e33, e36]
set_option maxRecDepth 100000 in
set_option maxHeartbeats 1600000 in
theorem st65n_35 (w0 : World) (R : NRec) (sch : Int) (x : Value) (Q : Exit → Act → World → Prop) (L : Nat → Bool) (s : Nat → Value) (w : World) (h : In65n w0 R sch L s w) (hL : L 35 = false) (hd : ∀ j ∈ depsOf .any (opsAt Tryz.f65) 35, L j = true) :
    wpOp Tryz.prog (opsAt Tryz.f65) Q 35 (Inv65n w0 R sch x (upd L 35)) (fr65 w0 x s) w := by
  obtain ⟨o, e, hq⟩ := h.ok 34 (by decide) (hd 34 (of_decide_eq_true (by kernel_rfl)))
  have hz := h.res0 hL
  have zf := hz.free
  have z0 := hz.cell (i := 0) rfl
  have z1 := hz.cell (i := 1) rfl
  have z2 := hz.cell (i := 2) rfl
  have z3 := hz.cell (i := 3) rfl
  have z4 := hz.cell (i := 4) rfl
  have z5 := hz.cell (i := 5) rfl
  have z6 := hz.cell (i := 6) rfl
  have z7 := hz.cell (i := 7) rfl
  have z8 := hz.cell (i := 8) rfl
  have z9 := hz.cell (i := 9) rfl
  have z10 := hz.cell (i := 10) rfl
  have z11 := hz.cell (i := 11) rfl
  have z12 := hz.cell (i := 12) rfl
  simp only [opsAt, Tryz.f65]
  refine wpOp_step rfl (fun K' hK' => ?_)
  unfold fr65
  go_simp
  exact hK' _ _ ⟨s, by simp [fr65, e], h.stored o hz hq⟩
theorem step65n (w0 : World) (R : NRec) (sch : Int) (x : Value) (Q : Exit → Act → World → Prop) (B : Nat) (hin : NRIn w0 B R) :
    ∀ L a w i, Inv65n w0 R sch x L a w → i < (opsAt Tryz.f65).size → L i = false → (∀ j ∈ depsOf .any (opsAt Tryz.f65) i, L j = true) → wpOp Tryz.prog (opsAt Tryz.f65) Q i (Inv65n w0 R sch x (upd L i)) a w := by
  rintro L a w i ⟨s, rfl, h⟩ hi hL hd
  rw [size65] at hi
  have hc : i = 0 ∨ i = 1 ∨ i = 2 ∨ i = 3 ∨ i = 4 ∨ i = 5 ∨ i = 6 ∨ i = 7 ∨ i = 8 ∨ i = 9 ∨ i = 10 ∨ i = 11 ∨ i = 12 ∨ i = 13 ∨ i = 14 ∨ i = 15 ∨ i = 16 ∨ i = 17 ∨ i = 18 ∨ i = 19 ∨ i = 20 ∨ i = 21 ∨ i = 22 ∨ i = 23 ∨ i = 24 ∨ i = 25 ∨ i = 26 ∨ i = 27 ∨ i = 28 ∨ i = 29 ∨ i = 30 ∨ i = 31 ∨ i = 32 ∨ i = 33 ∨ i = 34 ∨ i = 35 := by omega
  rcases hc with rfl | rfl | rfl | rfl | rfl | rfl | rfl | rfl | rfl | rfl | rfl | rfl | rfl | rfl | rfl | rfl | rfl | rfl | rfl | rfl | rfl | rfl | rfl | rfl | rfl | rfl | rfl | rfl | rfl | rfl | rfl | rfl | rfl | rfl | rfl | rfl
  · exact st65n_0 w0 R sch x Q L s w h hL hd
  · exact st65n_1 w0 R sch x Q L s w h hL hd
  · exact st65n_2 w0 R sch x Q L s w h hL hd
  · exact st65n_3 w0 R sch x Q L s w h hL hd
  · exact st65n_4 w0 R sch x Q L s w h hL hd
  · exact st65n_5 w0 R sch x Q L s w h hL hd
  · exact st65n_6 w0 R sch x Q L s w h hL hd
  · exact st65n_7 w0 R sch x Q L s w h hL hd
  · exact st65n_8 w0 R sch x Q L s w h hL hd
  · exact st65n_9 w0 R sch x Q L s w h hL hd
  · exact st65n_10 w0 R sch x Q L s w h hL hd
  · exact st65n_11 w0 R sch x Q L s w h hL hd
  · exact st65n_12 w0 R sch x Q L s w h hL hd
  · exact st65n_13 w0 R sch x Q L s w h hL hd
  · exact st65n_14 w0 R sch x Q L s w h hL hd
  · exact st65n_15 w0 R sch x Q L s w h hL hd
  · exact st65n_16 w0 R sch x Q L s w h hL hd
  · exact st65n_17 w0 R sch x Q L s w h hL hd
  · exact st65n_18 w0 R sch x Q L s w h hL hd
  · exact st65n_19 w0 R sch x Q L s w h B hin hL hd
  · exact st65n_20 w0 R sch x Q L s w h hL hd
  · exact st65n_21 w0 R sch x Q L s w h hL hd
  · exact st65n_22 w0 R sch x Q L s w h B hin hL hd
  · exact st65n_23 w0 R sch x Q L s w h hL hd
  · exact st65n_24 w0 R sch x Q L s w h hL hd
  · exact st65n_25 w0 R sch x Q L s w h hL hd
  · exact st65n_26 w0 R sch x Q L s w h B hin hL hd
  · exact st65n_27 w0 R sch x Q L s w h hL hd
  · exact st65n_28 w0 R sch x Q L s w h hL hd
  · exact st65n_29 w0 R sch x Q L s w h hL hd
  · exact st65n_30 w0 R sch x Q L s w h B hin hL hd
  · exact st65n_31 w0 R sch x Q L s w h hL hd
  · exact st65n_32 w0 R sch x Q L s w h hL hd
  · exact st65n_33 w0 R sch x Q L s w h hL hd
  · exact st65n_34 w0 R sch x Q L s w h hL hd
  · exact st65n_35 w0 R sch x Q L s w h hL hd

set_option maxHeartbeats 1600000 in
set_option maxRecDepth 100000 in
theorem histFrom_nat (R : NRec) (sch : Int) (B : Nat) (w : World) (hin : NRIn w B R) :
    Calls Tryz.prog 65 #[.agg #[.int .u64 R.cnt, .float .f64 R.sum, .slice none 0 0, .int .i64 R.created, .bool true, .int .i32 sch, .float .f64 R.zt, .int .u64 R.zc, .slice R.a1 R.Ln.length R.c1, .slice R.a2 R.Lp.length R.c2, .slice R.a3 R.tn.length R.c3, .slice R.a4 R.tp.length R.c4, .slice none 0 0]] w fun e w' => ∃ o : NOut, e = .returned (.agg (nOut R sch o).toArray) ∧ NOutIn w' w.heap.size R o ∧ Only (fun _ => False) w w' := by
  have HIN := Lib.hid hin
  have HI : Hid (∀ L, (∀ i, L i = false) → In65n w R sch L (fun _ => undef) ((w.alloc (.cells (nVals R sch).toArray 92)).alloc (.cells (hVals 0 0 (.slice none 0 0) 0).toArray 36)).drew) := Lib.hid (fun L hL => {
    blk := ((IsBlock.new w _ 92).alloc _).drew
    only := (((Only.refl _ w).alloc _).alloc _).drew
    size := by show _ ≤ (World.alloc _ _).heap.size; rw [World.size_alloc, World.size_alloc]; omega
    ok := fun i _ h => by rw [hL] at h; cases h
    res0 := fun _ => (blk_new' _ _ _ _ (World.size_alloc _ _).symm).drew
    res1 := fun h => by rw [hL] at h; cases h })
  clear hin
  go_enter Tryz.func65, Tryz.ntmps65
  go_upto_region 1 with fail
  refine region_inv (ops := opsAt Tryz.f65) (by kernel_rfl) (Inv65n w R sch (.agg #[.int .u64 R.cnt, .float .f64 R.sum, .slice none 0 0, .int .i64 R.created, .bool true, .int .i32 sch, .float .f64 R.zt, .int .u64 R.zc, .slice R.a1 R.Ln.length R.c1, .slice R.a2 R.Lp.length R.c2, .slice R.a3 R.tn.length R.c3, .slice R.a4 R.tp.length R.c4, .slice none 0 0])) early65 ?_ (step65n w R sch _ _ B HIN.out) ?_
  · exact ⟨fun _ => undef, rfl, ((HI.out _ (fun _ => rfl)))⟩
  · rintro L a w' ⟨s, rfl, h⟩ hall
    obtain ⟨o, hB, hq⟩ := h.res1 (hall 35 (by rw [size65]; decide))
    have ho := h.only
    have HH := Lib.hid (And.intro hq ho)
    clear h hall hq ho
    unfold fr65
    go_wp2_with fail
    have y0 := hB.cell (i := 0) rfl
    have y1 := hB.cell (i := 1) rfl
    have y2 := hB.cell (i := 2) rfl
    have y3 := hB.cell (i := 3) rfl
    have y4 := hB.cell (i := 4) rfl
    have y5 := hB.cell (i := 5) rfl
    have y6 := hB.cell (i := 6) rfl
    have y7 := hB.cell (i := 7) rfl
    have y8 := hB.cell (i := 8) rfl
    have y9 := hB.cell (i := 9) rfl
    have y10 := hB.cell (i := 10) rfl
    have y11 := hB.cell (i := 11) rfl
    have y12 := hB.cell (i := 12) rfl
    exact bodyPost_ret (v := .agg (nOut R sch o).toArray) (by simp [results, Tryz.results65, go_sem, nOut, y0, y1, y2, y3, y4, y5, y6, y7, y8, y9, y10, y11, y12]) rfl ⟨o, rfl, HH.out.1.lower (by omega), HH.out.2⟩
end Go.Proofs.YtebjclmbacmilaaGreatDoor
