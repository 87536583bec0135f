/- atomic.Value.Load as facts, and as a rule of the walk. No conditions. The words of the loop of (*histogram).Write over the bounds: what is written so far. No program is walked here. -/
import Derived.Test.YtebjclmbacmilaaGreatDoorA
import Derived.Test.YtebjclmbacmilaaGreatDoorW
namespace Go.Proofs.YtebjclmbacmilaaGreatDoor
open Go.RowKit
theorem load_un (a : Addr) : Extern.AtomicValue.load_ #[.pointer (some a)] = (do pure (← Extern.AtomicValue.held (← asAddr (.pointer (some a)))).1) := rfl
theorem any_load_nil {a : Addr} {w : World} (hc : w.cell? a = some .nilIface) : (callFunc 251 #[.pointer (some a)]).run Tryz.prog w = .ok (.value .nilIface) w := by
  rw [run_callFunc_extern Tryz.func251 (by kernel_rfl) (by kernel_rfl) (by kernel_rfl) (show Extern.find Tryz.f251 = some Extern.AtomicValue.load_ by kernel_rfl), load_un]
  simp [Extern.AtomicValue.held, asAddr, go_sem, hc]
theorem any_load_iface {a : Addr} {w : World} {t : TypeId} {v : Value} (hc : w.cell? a = some (.iface t v)) : (callFunc 251 #[.pointer (some a)]).run Tryz.prog w = .ok (.value (.iface t v)) w := by
  rw [run_callFunc_extern Tryz.func251 (by kernel_rfl) (by kernel_rfl) (by kernel_rfl) (show Extern.find Tryz.f251 = some Extern.AtomicValue.load_ by kernel_rfl), load_un]
  simp [Extern.AtomicValue.held, asAddr, go_sem, hc]
noncomputable def anyRes (a : Addr) (w : World) : Option Value → Result Next
  | some .nilIface => .ok (.value .nilIface) w
  | some (.iface t v) => .ok (.value (.iface t v)) w
  | _ => (callFunc 251 #[.pointer (some a)]).run Tryz.prog w
@[go_sem] theorem anyRes_nil (a : Addr) (w : World) : anyRes a w (some .nilIface) = .ok (.value .nilIface) w := rfl
@[go_sem] theorem anyRes_iface (a : Addr) (w : World) (t : TypeId) (v : Value) : anyRes a w (some (.iface t v)) = .ok (.value (.iface t v)) w := rfl
@[go_sem] theorem load_rule251 (a : Addr) (w : World) : (callFunc 251 #[.pointer (some a)]).run Tryz.prog w = anyRes a w (w.cell? a) := by
  unfold anyRes
  split
  · rename_i h; exact any_load_nil h
  · rename_i h; exact any_load_iface h
  · rfl
end Go.Proofs.YtebjclmbacmilaaGreatDoor

namespace Go.Proofs.YtebjclmbacmilaaGreatDoor
open Go.RowKit

/-- An empty metric, and one that holds the labels and a written histogram. -/
def mNew : List Value := [.slice none 0 0, .pointer none, .pointer none, .pointer none, .pointer none, .pointer none, .pointer none]
def mDone (g : Nat) : List Value := [.slice none 0 0, .pointer none, .pointer none, .pointer none, .pointer none, .pointer (some ⟨g, 0, none⟩), .pointer none]

/-- A written bucket: its struct, the count, the bound; what they hold. -/
structure BP where
  b : Nat
  c : Nat
  u : Nat
  cum : Nat
  up : Nat
  mark : Value
structure BIn (w : World) (B : Nat) (x : BP) : Prop where
  hb : IsBlock w x.b [.pointer (some ⟨x.c, 0, none⟩), .pointer (some ⟨x.u, 0, none⟩), x.mark]
  hc : IsBlock w x.c [.int .u64 x.cum]
  hu : IsBlock w x.u [.float .f64 x.up]
  b1 : B ≤ x.b
  b2 : B ≤ x.c
  b3 : B ≤ x.u
def BP.ptr (x : BP) : Value := .pointer (some ⟨x.b, 0, none⟩)
theorem BIn.mono {w w' : World} {B : Nat} {x : BP} (h : BIn w B x) {S : Nat → Prop} (ho : Only S w w') (hS : ∀ k, S k → k < B) : BIn w' B x where
  hb := ho.isBlock h.hb (fun hs => by have := hS _ hs; have := h.b1; omega)
  hc := ho.isBlock h.hc (fun hs => by have := hS _ hs; have := h.b2; omega)
  hu := ho.isBlock h.hu (fun hs => by have := hS _ hs; have := h.b3; omega)
  b1 := h.b1
  b2 := h.b2
  b3 := h.b3

/-- The sum of the first counts. -/
def cumN (bk : List Nat) (k : Nat) : Nat := (bk.take k).sum
theorem cumN_succ (bk : List Nat) (k : Nat) (h : k < bk.length) : cumN bk (k + 1) = cumN bk k + wd bk k := by
  unfold cumN
  rw [List.take_succ_eq_append_getElem h, List.sum_append, getD_get]
  simp [wd]
theorem cumN_le (bk : List Nat) (k : Nat) : cumN bk k ≤ bk.sum := by
  unfold cumN
  have := List.sum_append (l₁ := bk.take k) (l₂ := bk.drop k)
  rw [List.take_append_drop] at this
  omega
/-- What an exemplar's cell is written as. -/
def markPtr : Value → Value
  | .iface _ v => v
  | _ => .pointer none
def mk (l : List Value) (i : Nat) : Value := l.getD i .nilIface
def bVal (bk bounds : List Nat) (marks : List Value) (i : Nat) : Nat × Nat × Value := (cumN bk (i + 1), wd bounds i, markPtr (mk marks i))

theorem getD_mk {l : List Value} {i : Nat} (h : i < l.length) : l[i]? = some (mk l i) := by
  unfold mk
  rw [List.getD_eq_getElem?_getD, List.getElem?_eq_getElem h]; rfl

/-- The blocks that Write holds. -/
def WBlk (p : Pl) (z7 z8 out k : Nat) : Prop := p.own k ∨ k = p.u ∨ k = z7 ∨ k = z8 ∨ k = out
theorem WBlk.h {p : Pl} {z7 z8 out : Nat} : WBlk p z7 z8 out p.h := .inl (.inl rfl)
theorem WBlk.c {p : Pl} {z7 z8 out : Nat} (i : Bool) : WBlk p z7 z8 out (p.c i) := .inl (by cases i; exact .inr (.inl rfl); exact .inr (.inr (.inl rfl)))
theorem WBlk.b {p : Pl} {z7 z8 out : Nat} (i : Bool) : WBlk p z7 z8 out (p.b i) := .inl (by cases i; exact .inr (.inr (.inr (.inl rfl))); exact .inr (.inr (.inr (.inr (.inl rfl)))))
theorem WBlk.ex {p : Pl} {z7 z8 out : Nat} : WBlk p z7 z8 out p.ex := .inl (.inr (.inr (.inr (.inr (.inr rfl)))))
theorem WBlk.u {p : Pl} {z7 z8 out : Nat} : WBlk p z7 z8 out p.u := .inr (.inl rfl)
theorem WBlk.z7 {p : Pl} {z7 z8 out : Nat} : WBlk p z7 z8 out z7 := .inr (.inr (.inl rfl))
theorem WBlk.z8 {p : Pl} {z7 z8 out : Nat} : WBlk p z7 z8 out z8 := .inr (.inr (.inr (.inl rfl)))
theorem WBlk.out {p : Pl} {z7 z8 out : Nat} : WBlk p z7 z8 out out := .inr (.inr (.inr (.inr rfl)))

theorem WIn.mono {w w' : World} {p : Pl} {s : HSt} {z7 z8 out : Nat} {os : List Value} (W : WIn w p s z7 z8 out os) {S : Nat → Prop} (ho : Only S w w')
    (hS : ∀ k, WBlk p z7 z8 out k → ¬ S k) : WIn w' p s z7 z8 out os where
  hh := ho.isBlock W.hh (hS _ .h)
  hc := fun i => ho.isBlock (W.hc i) (hS _ (.c i))
  hb := fun i => ho.isBlock (W.hb i) (hS _ (.b i))
  hu := ho.isBlock W.hu (hS _ .u)
  hx := ho.isBlock W.hx (hS _ .ex)
  h7 := ho.isBlock W.h7 (hS _ .z7)
  h8 := ho.isBlock W.h8 (hS _ .z8)
  ho := ho.isBlock W.ho (hS _ .out)
theorem WIn.lt {w : World} {p : Pl} {s : HSt} {z7 z8 out : Nat} {os : List Value} (W : WIn w p s z7 z8 out os) (k : Nat) (h : WBlk p z7 z8 out k) : k < w.heap.size := by
  rcases h with h | rfl | rfl | rfl | rfl
  · rcases h with rfl | rfl | rfl | rfl | rfl | rfl
    · exact W.hh.lt
    · exact (W.hc _).lt
    · exact (W.hc _).lt
    · exact (W.hb _).lt
    · exact (W.hb _).lt
    · exact W.hx.lt
  · exact W.hu.lt
  · exact W.h7.lt
  · exact W.h8.lt
  · exact W.ho.lt
theorem WIn.setOut {w : World} {p : Pl} {s : HSt} {z7 z8 out : Nat} {os : List Value} (W : WIn w p s z7 z8 out os) (hne : ∀ k, p.own k ∨ k = p.u ∨ k = z7 ∨ k = z8 → k ≠ out) (i : Nat) (v : Value) :
    WIn (w.setCell ⟨out, i, none⟩ v) p s z7 z8 out (os.set i v) where
  hh := W.hh.set_ne (a := ⟨out, i, none⟩) (hne _ (.inl (.inl rfl))) v
  hc := fun j => (W.hc j).set_ne (a := ⟨out, i, none⟩) (hne _ (.inl (by cases j; exact .inr (.inl rfl); exact .inr (.inr (.inl rfl))))) v
  hb := fun j => (W.hb j).set_ne (a := ⟨out, i, none⟩) (hne _ (.inl (by cases j; exact .inr (.inr (.inr (.inl rfl))); exact .inr (.inr (.inr (.inr (.inl rfl))))))) v
  hu := W.hu.set_ne (a := ⟨out, i, none⟩) (hne _ (.inr (.inl rfl))) v
  hx := W.hx.set_ne (a := ⟨out, i, none⟩) (hne _ (.inl (.inr (.inr (.inr (.inr (.inr rfl))))))) v
  h7 := W.h7.set_ne (a := ⟨out, i, none⟩) (hne _ (.inr (.inr (.inl rfl)))) v
  h8 := W.h8.set_ne (a := ⟨out, i, none⟩) (hne _ (.inr (.inr (.inr rfl)))) v
  ho := W.ho.set i v

/-- Where the written histogram lies apart from the rest. -/
structure QS (p : Pl) (z7 z8 out : Nat) (q : HisPl) (A B : Nat) : Prop where
  lo : ∀ k, WBlk p z7 z8 out k → k < A
  g1 : A ≤ q.g ∧ q.g < B
  g2 : A ≤ q.arr ∧ q.arr < B
  g3 : A ≤ q.pc ∧ q.pc < B
  g4 : A ≤ q.ps ∧ q.ps < B
  g5 : A ≤ q.pt ∧ q.pt < B
  n1 : q.arr ≠ q.g
  n2 : q.arr ≠ q.pc ∧ q.arr ≠ q.ps ∧ q.arr ≠ q.pt
  n3 : q.g ≠ q.pc ∧ q.g ≠ q.ps ∧ q.g ≠ q.pt

theorem Only.widen {S T : Nat → Prop} {a b c : World} (h : Only S a b) (k : Only T b c) (hT : ∀ j, T j → a.heap.size ≤ j) : Only S a c :=
  ⟨k.os.trans h.os, k.tape.trans h.tape, k.output.trans h.output, Nat.le_trans h.size k.size,
    fun i hi hs => (k.block i (Nat.lt_of_lt_of_le hi h.size) (fun ht => by have := hT i ht; omega)).trans (h.block i hi hs)⟩

/-- Between two rounds of the loop over the bounds. -/
structure LRel (w : World) (p : Pl) (s : HSt) (z7 z8 out : Nat) (os : List Value) (q : HisPl) (A B k : Nat) (bl : List BP) (wr : World) : Prop where
  win : WIn wr p s z7 z8 out os
  qs : QS p z7 z8 out q A B
  hg : IsBlock wr q.g (q.cells s.bounds.length)
  hc : IsBlock wr q.pc [.int .u64 s.n]
  hs : IsBlock wr q.ps [.float .f64 (s.c s.hot).sum]
  ht : IsBlock wr q.pt [.int .i64 s.last]
  ha : IsBlock wr q.arr (bl.map BP.ptr ++ List.replicate (s.bounds.length - k) (.pointer none))
  len : bl.length = k
  ins : ∀ x ∈ bl, BIn wr B x
  vals : bl.map (fun x => (x.cum, x.up, x.mark)) = (List.range k).map (bVal (s.c s.hot).bk s.bounds s.marks)
  only : Only (fun k => k = p.h ∨ k = out) w wr
  aw : w.heap.size ≤ A
  bsz : B ≤ wr.heap.size

theorem LRel.arr_cell {w : World} {p : Pl} {s : HSt} {z7 z8 out : Nat} {os : List Value} {q : HisPl} {A B k : Nat} {bl : List BP} {wr : World} (R : LRel w p s z7 z8 out os q A B k bl wr) (hk : k < s.bounds.length) :
    wr.cell? ⟨q.arr, k, none⟩ = some (.pointer none) := by
  refine R.ha.cell ?_
  rw [List.getElem?_append_right (by simp [R.len]), List.length_map, R.len, Nat.sub_self, List.getElem?_replicate, if_pos (by omega)]

theorem set_snoc (bl : List BP) (n k : Nat) (x : BP) (hl : bl.length = k) (hk : k < n) : (bl.map BP.ptr ++ List.replicate (n - k) (Value.pointer none)).set k x.ptr = (bl ++ [x]).map BP.ptr ++ List.replicate (n - (k + 1)) (.pointer none) := by
  rw [List.set_append_right _ _ (by simp [hl]), List.length_map, hl, Nat.sub_self]
  have : n - k = (n - (k + 1)) + 1 := by omega
  rw [this, List.replicate_succ, List.set_cons_zero, List.map_append]
  simp

theorem LRel.next {w : World} {p : Pl} {s : HSt} {z7 z8 out : Nat} {os : List Value} {q : HisPl} {A B k : Nat} {bl : List BP} {wr : World} (R : LRel w p s z7 z8 out os q A B k bl wr) (hk : k < s.bounds.length)
    (x : BP) (w5 : World) (ho : Only (fun j => j = q.arr) wr w5) (ha : IsBlock w5 q.arr ((bl.map BP.ptr ++ List.replicate (s.bounds.length - k) (Value.pointer none)).set k x.ptr)) (hx : BIn w5 B x)
    (hv : (x.cum, x.up, x.mark) = bVal (s.c s.hot).bk s.bounds s.marks k) : LRel w p s z7 z8 out os q A B (k + 1) (bl ++ [x]) w5 where
  win := R.win.mono ho (fun j hj e => by have := R.qs.lo j hj; have := R.qs.g2; omega)
  qs := R.qs
  hg := ho.isBlock R.hg (fun e => R.qs.n1 e.symm)
  hc := ho.isBlock R.hc (fun e => R.qs.n2.1 e.symm)
  hs := ho.isBlock R.hs (fun e => R.qs.n2.2.1 e.symm)
  ht := ho.isBlock R.ht (fun e => R.qs.n2.2.2 e.symm)
  ha := by rw [← set_snoc bl _ k x R.len hk]; exact ha
  len := by simp [R.len]
  ins := fun y hy => by
    rcases List.mem_append.1 hy with h | h
    · exact (R.ins y h).mono ho (fun j e => by have := R.qs.g2; omega)
    · rw [List.mem_singleton.1 h]; exact hx
  vals := by rw [List.map_append, R.vals, List.range_succ, List.map_append]; simp [hv]
  only := Only.widen R.only ho (fun j e => by subst e; have := R.qs.g2; have := R.aw; omega)
  aw := R.aw
  bsz := Nat.le_trans R.bsz ho.size

/-- Fresh counts that take over those of others. -/
def CSt.warm (a b : CSt) (r : Nat) : CSt := { a with sum := r, cnt := b.cnt, zero := b.zero, bk := b.bk }
theorem zip_zero (b : List Nat) : List.zipWith (· + ·) (List.replicate b.length 0) b = b := by
  induction b with
  | nil => rfl
  | cons x l ih => simp [List.replicate_succ, ih]
theorem take_cold {a b : CSt} {r : Nat} (h : a.Cold) (hl : a.bk.length = b.bk.length) : a.take b r = a.warm b r := by
  unfold CSt.take CSt.warm
  have hb := h.bk
  rw [hl] at hb
  rw [h.cnt, h.zero, hb, zip_zero]
  simp
/-- The state behind a call of Write. -/
def HSt.wrote (s : HSt) (r : Nat) : HSt := { s with hot := !s.hot, c := fun j => if j = s.hot then (s.c s.hot).left else (s.c (!s.hot)).warm (s.c s.hot) r }
theorem wrote_old (s : HSt) (r : Nat) : (s.wrote r).c s.hot = (s.c s.hot).left := if_pos rfl
theorem wrote_new (s : HSt) (r : Nat) : (s.wrote r).c (!s.hot) = (s.c (!s.hot)).warm (s.c s.hot) r := if_neg (by cases s.hot <;> simp)

theorem HIn.wrote {w wr w1 : World} {p : Pl} {s : HSt} {z7 z8 out : Nat} {os : List Value} (H : HIn w p s) (W : WIn wr p s z7 z8 out os) (r : Nat)
    (h1 : IsBlock w1 (p.c (!s.hot)) (((s.c (!s.hot)).take (s.c s.hot) r).cells (p.b (!s.hot)))) (h2 : IsBlock w1 (p.c s.hot) ((s.c s.hot).left.cells (p.b s.hot)))
    (h3 : IsBlock w1 (p.b (!s.hot)) (u64s ((s.c (!s.hot)).take (s.c s.hot) r).bk)) (h4 : IsBlock w1 (p.b s.hot) (u64s (s.c s.hot).left.bk))
    (ho : Only (fun k => k = p.c (!s.hot) ∨ k = p.c s.hot ∨ k = p.b (!s.hot) ∨ k = p.b s.hot) wr w1) : HIn (w1.setCell ⟨p.h, 3, none⟩ (.int .i32 0)) p (s.wrote r) := by
  have A := H.apart
  have hl : (s.c (!s.hot)).bk.length = (s.c s.hot).bk.length := by rw [H.lb, H.lb]
  have ht := take_cold (r := r) H.cold hl
  rw [ht] at h1 h3
  have hcase : ∀ j, j = s.hot ∨ j = !s.hot := fun j => by cases j <;> cases s.hot <;> simp
  have hlen : ∀ j, ((s.wrote r).c j).bk.length = s.bounds.length := fun j => by
    rcases hcase j with rfl | rfl
    · rw [wrote_old]; show (List.replicate _ _).length = _; rw [List.length_replicate]; exact H.lb _
    · rw [wrote_new]; show (s.c s.hot).bk.length = _; exact H.lb _
  refine { apart := A, hh := ?_, hc := ?_, hb := ?_, hu := ?_, hx := ?_, lb := hlen, lx := H.lx, cold := ?_, bd := ?_, cd := ?_, zd := ?_ }
  · have h := (ho.isBlock W.hh (by
      rintro (h | h | h | h)
      · exact A.hc _ h
      · exact A.hc _ h
      · exact A.hb _ h
      · exact A.hb _ h)).set 3 (.int .i32 0)
    exact h
  · intro j
    rcases hcase j with rfl | rfl
    · rw [wrote_old]; exact h2.set_ne (a := ⟨p.h, 3, none⟩) (fun h => A.hc _ h.symm) _
    · rw [wrote_new]; exact h1.set_ne (a := ⟨p.h, 3, none⟩) (fun h => A.hc _ h.symm) _
  · intro j
    rcases hcase j with rfl | rfl
    · rw [wrote_old]; exact h4.set_ne (a := ⟨p.h, 3, none⟩) (fun h => A.hb _ h.symm) _
    · rw [wrote_new]; exact h3.set_ne (a := ⟨p.h, 3, none⟩) (fun h => A.hb _ h.symm) _
  · refine (ho.isBlock W.hu ?_).set_ne (a := ⟨p.h, 3, none⟩) (fun h => A.hu h.symm) _
    rintro (h | h | h | h)
    · exact A.cu _ h.symm
    · exact A.cu _ h.symm
    · exact A.bu _ h.symm
    · exact A.bu _ h.symm
  · refine (ho.isBlock W.hx ?_).set_ne (a := ⟨p.h, 3, none⟩) (fun h => A.hx h.symm) _
    rintro (h | h | h | h)
    · exact A.cx _ h.symm
    · exact A.cx _ h.symm
    · exact A.bx _ h.symm
    · exact A.bx _ h.symm
  · show ((s.wrote r).c (!(!s.hot))).Cold
    rw [Bool.not_not, wrote_old]
    exact ⟨rfl, rfl, rfl, by simp [CSt.left]⟩
  · intro k
    show wd ((s.wrote r).c (!s.hot)).bk k ≤ s.n
    rw [wrote_new]; exact H.bd k
  · show ((s.wrote r).c (!s.hot)).cnt = s.n
    rw [wrote_new]; exact H.cd
  · show ((s.wrote r).c (!s.hot)).zero ≤ s.n
    rw [wrote_new]; exact H.zd

/-- A written histogram lies in w, in blocks from A on. -/
structure Done (w : World) (A : Nat) (q : HisPl) (bl : List BP) (cnt sum : Nat) (created : Int) : Prop where
  hg : IsBlock w q.g (q.cells bl.length)
  hc : IsBlock w q.pc [.int .u64 cnt]
  hs : IsBlock w q.ps [.float .f64 sum]
  ht : IsBlock w q.pt [.int .i64 created]
  ha : IsBlock w q.arr (bl.map BP.ptr)
  ins : ∀ x ∈ bl, BIn w A x
  g1 : A ≤ q.g
  g2 : A ≤ q.arr
  g3 : A ≤ q.pc
  g4 : A ≤ q.ps
  g5 : A ≤ q.pt
theorem Done.mono {w w' : World} {A : Nat} {q : HisPl} {bl : List BP} {cnt sum : Nat} {created : Int} (D : Done w A q bl cnt sum created) {S : Nat → Prop} (ho : Only S w w') (hS : ∀ k, S k → k < A) : Done w' A q bl cnt sum created where
  hg := ho.isBlock D.hg (fun h => by have := hS _ h; have := D.g1; omega)
  hc := ho.isBlock D.hc (fun h => by have := hS _ h; have := D.g3; omega)
  hs := ho.isBlock D.hs (fun h => by have := hS _ h; have := D.g4; omega)
  ht := ho.isBlock D.ht (fun h => by have := hS _ h; have := D.g5; omega)
  ha := ho.isBlock D.ha (fun h => by have := hS _ h; have := D.g2; omega)
  ins := fun x hx => (D.ins x hx).mono ho hS
  g1 := D.g1
  g2 := D.g2
  g3 := D.g3
  g4 := D.g4
  g5 := D.g5

theorem LRel.done {w : World} {p : Pl} {s : HSt} {z7 z8 out : Nat} {os : List Value} {q : HisPl} {A B : Nat} {bl : List BP} {wr : World} (R : LRel w p s z7 z8 out os q A B s.bounds.length bl wr) :
    Done wr w.heap.size q bl s.n (s.c s.hot).sum s.last where
  hg := by rw [R.len]; exact R.hg
  hc := R.hc
  hs := R.hs
  ht := R.ht
  ha := by have h := R.ha; rw [Nat.sub_self, List.replicate_zero, List.append_nil] at h; exact h
  ins := fun x hx => by
    have h := R.ins x hx
    have := R.qs.g1
    have := R.aw
    have := h.b1
    have := h.b2
    have := h.b3
    exact ⟨h.hb, h.hc, h.hu, by omega, by omega, by omega⟩
  g1 := by have := R.qs.g1; have := R.aw; omega
  g2 := by have := R.qs.g2; have := R.aw; omega
  g3 := by have := R.qs.g3; have := R.aw; omega
  g4 := by have := R.qs.g4; have := R.aw; omega
  g5 := by have := R.qs.g5; have := R.aw; omega
end Go.Proofs.YtebjclmbacmilaaGreatDoor
