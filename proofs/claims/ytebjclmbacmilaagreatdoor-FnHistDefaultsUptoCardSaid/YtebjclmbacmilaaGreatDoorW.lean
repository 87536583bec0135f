/- The contract of the region of (*histogram).Write that makes the written histogram: whatever the order of its operations. Conditions: at most 2^42 bounds. -/
import Derived.Test.YtebjclmbacmilaaGreatDoorxH
import Derived.Test.YtebjclmbacmilaaGreatDoorM
import Derived.Deep.RegionHeld3
import Derived.Deep.DeepCutAuto
import Derived.Deep.CutRange
import Derived.Deep.OwnRows
namespace Go.Proofs.YtebjclmbacmilaaGreatDoor
open Go.RowKit Go.MuLone

theorem cooldown_any (x y : Value) (w : World) : Calls Tryz.prog 247 #[x, y] w fun e w' => e = .returned (.tuple #[]) ∧ w' = w := by
  go_enter Tryz.func247, Tryz.ntmps247
  go_wp2
  go_end0
  exact ⟨rfl, rfl⟩
theorem ofU64_any (x : Int) (w : World) : Calls Tryz.prog 248 #[.int .u64 x] w fun e w' => e = .returned (.pointer (some ⟨w.heap.size, 0, none⟩)) ∧ w' = w.alloc (.cells #[.int .u64 x] 30) := by
  go_enter Tryz.func248, Tryz.ntmps248
  go_wp2
  go_ret
  exact ⟨rfl, rfl⟩
theorem ofF64_any (x : Nat) (w : World) : Calls Tryz.prog 249 #[.float .f64 x] w fun e w' => e = .returned (.pointer (some ⟨w.heap.size, 0, none⟩)) ∧ w' = w.alloc (.cells #[.float .f64 x] 25) := by
  go_enter Tryz.func249, Tryz.ntmps249
  go_wp2
  go_ret
  exact ⟨rfl, rfl⟩

theorem idxVal_flip {a : Addr} {n : Nat} {hot : Bool} {w : World} (hc : w.cell? a = some (.int .u64 (idxVal n hot))) (hz : w.frozen? a = false) (hn : n < 2 ^ 63) :
    (callFunc 246 #[.pointer (some a), .int .u64 9223372036854775808]).run Tryz.prog w = .ok (.value (.int .u64 (idxVal n (!hot)))) (w.setCell a (.int .u64 (idxVal n (!hot)))) := by
  have h := add_u64 (y := 9223372036854775808) hc hz
  have e : IntKind.u64.wrap (idxVal n hot + 9223372036854775808) = idxVal n (!hot) := by
    show ((idxVal n hot + 9223372036854775808) % 2 ^ 64) = _
    unfold idxVal
    cases hot <;> simp only [Bool.false_eq_true, if_false, if_true, Bool.not_true, Bool.not_false] <;> omega
  rw [e] at h
  exact h

theorem idxVal_and (n : Nat) (hot : Bool) (hn : n < 2 ^ 63) : bits BinOp.and IntKind.u64 (idxVal n hot) 9223372036854775807 = n := by
  have hb : (0 : Int) ≤ idxVal n hot ∧ idxVal n hot < 2 ^ 64 := by unfold idxVal; cases hot <;> simp only [Bool.false_eq_true, if_false, if_true] <;> omega
  have h := bits_and_u64_nat (idxVal n hot).toNat 9223372036854775807 (by omega) (by omega)
  rw [Int.toNat_of_nonneg hb.1] at h
  have h2 : (idxVal n hot).toNat &&& 9223372036854775807 = n := by
    have := Nat.and_two_pow_sub_one_eq_mod (idxVal n hot).toNat 63
    have e : 2 ^ 63 - 1 = 9223372036854775807 := by decide
    rw [e] at this
    rw [this]
    unfold idxVal; cases hot <;> simp only [Bool.false_eq_true, if_false, if_true] <;> omega
  rw [h2] at h
  exact h
theorem idxVal_div (n : Nat) (hot : Bool) (hn : n < 2 ^ 63) : idxVal n hot / 9223372036854775808 = hotIdx hot := by
  unfold idxVal hotIdx
  cases hot <;> simp only [Bool.false_eq_true, if_false, if_true] <;> omega
theorem idxVal_not (n : Nat) (hot : Bool) (hn : n < 2 ^ 63) : bits BinOp.xor IntKind.u64 IntKind.u64.max (idxVal n hot) / 9223372036854775808 = hotIdx (!hot) := by
  have hb : (0 : Int) ≤ idxVal n hot ∧ idxVal n hot < 2 ^ 64 := by unfold idxVal; cases hot <;> simp only [Bool.false_eq_true, if_false, if_true] <;> omega
  have h := bits_xor_u64_nat 18446744073709551615 (idxVal n hot).toNat (by omega) (by omega)
  rw [Int.toNat_of_nonneg hb.1] at h
  have e : bits BinOp.xor IntKind.u64 IntKind.u64.max (idxVal n hot) = ((18446744073709551615 ^^^ (idxVal n hot).toNat : Nat) : Int) := h
  rw [e]
  have hs : (18446744073709551615 ^^^ (idxVal n hot).toNat) / 9223372036854775808 = 1 ^^^ ((idxVal n hot).toNat / 9223372036854775808) := by
    have := Nat.shiftRight_xor_distrib (a := 18446744073709551615) (b := (idxVal n hot).toNat) (i := 63)
    rw [Nat.shiftRight_eq_div_pow, Nat.shiftRight_eq_div_pow, Nat.shiftRight_eq_div_pow] at this
    exact this
  have hd : (idxVal n hot).toNat / 9223372036854775808 = (hotIdx hot).toNat := by
    unfold idxVal hotIdx; cases hot <;> simp only [Bool.false_eq_true, if_false, if_true] <;> omega
  rw [hd] at hs
  have : ((18446744073709551615 ^^^ (idxVal n hot).toNat : Nat) : Int) / 9223372036854775808 = (((18446744073709551615 ^^^ (idxVal n hot).toNat) / 9223372036854775808 : Nat) : Int) := by omega
  rw [this, hs]
  cases hot <;> decide
theorem hotIdx_bd (b : Bool) : 0 ≤ hotIdx b ∧ hotIdx b < 2 := by cases b <;> decide
theorem HIn.cIdx {w : World} {p : Pl} {s : HSt} (H : HIn w p s) (b : Bool) : w.cell? ⟨p.h, 5 + (hotIdx b).toNat, none⟩ = some (.pointer (some ⟨p.c b, 0, none⟩)) := by
  cases b
  · exact H.hh.cell rfl
  · exact H.hh.cell rfl


/-- Inside Write: the lock is held, the index is flipped; z7, z8 hold the hot and the cold counts' addresses. -/
structure WIn (w : World) (p : Pl) (s : HSt) (z7 z8 out : Nat) (os : List Value) : Prop where
  hh : IsBlock w p.h (((s.cells p).set 3 (.int .i32 1)).set 0 (.int .u64 (idxVal s.n (!s.hot))))
  hc : ∀ i, IsBlock w (p.c i) ((s.c i).cells (p.b i))
  hb : ∀ i, IsBlock w (p.b i) (u64s (s.c i).bk)
  hu : IsBlock w p.u (f64s s.bounds ++ p.spare)
  hx : IsBlock w p.ex s.marks
  h7 : IsBlock w z7 [.pointer (some ⟨p.c (!s.hot), 0, none⟩)]
  h8 : IsBlock w z8 [.pointer (some ⟨p.c s.hot, 0, none⟩)]
  ho : IsBlock w out os

theorem WIn.kept {w w' : World} {p : Pl} {s : HSt} {z7 z8 out : Nat} {os : List Value} (W : WIn w p s z7 z8 out os) {S : Nat → Prop} (ho : Only S w w')
    (hS : ∀ k, S k → w.heap.size ≤ k) : WIn w' p s z7 z8 out os := by
  have hlt : ∀ {b cs}, IsBlock w b cs → ¬ S b := fun h hs => by have := hS _ hs; have := h.lt; omega
  exact {
    hh := ho.isBlock W.hh (hlt W.hh)
    hc := fun i => ho.isBlock (W.hc i) (hlt (W.hc i))
    hb := fun i => ho.isBlock (W.hb i) (hlt (W.hb i))
    hu := ho.isBlock W.hu (hlt W.hu)
    hx := ho.isBlock W.hx (hlt W.hx)
    h7 := ho.isBlock W.h7 (hlt W.h7)
    h8 := ho.isBlock W.h8 (hlt W.h8)
    ho := ho.isBlock W.ho (hlt W.ho) }

def nils (n : Nat) : Array Value := (List.replicate n (Value.pointer none)).toArray
theorem make_nils (n : Nat) (hn : n ≤ 4611686018427) (w : World) :
    (Instr.makeSlice 170 (.int .i64 (n : Int)) (.int .i64 (n : Int))).run Tryz.prog w = .ok (.slice (some ⟨w.heap.size, 0, none⟩) n n) (w.alloc (.cells (nils n) 177)) := by
  have h := run_make_row' (P := Tryz.prog) 170 177 (.pointer none) 8 Tryz.underlying170 (by kernel_rfl) rfl .i64 .i64 n (by omega) (by omega) w
  have e : madeCells #[Value.pointer none] n = nils n := by
    apply Array.toList_inj.1; rw [toList_madeCells_one]; rfl
  rw [e] at h; exact h

/-- A written histogram, fresh: where it lies. -/
structure HisPl where
  g : Nat
  pc : Nat
  ps : Nat
  pt : Nat
  arr : Nat
def HisPl.cells (q : HisPl) (n : Nat) : List Value :=
  [.pointer (some ⟨q.pc, 0, none⟩), .pointer (some ⟨q.ps, 0, none⟩), .slice (some ⟨q.arr, 0, none⟩) n n, .pointer (some ⟨q.pt, 0, none⟩), .pointer none, .pointer none, .pointer none,
    .slice none 0 0, .slice none 0 0, .slice none 0 0, .slice none 0 0, .slice none 0 0]
structure HisNew (w w' : World) (q : HisPl) (n cnt sum : Nat) (created : Int) : Prop where
  hg : IsBlock w' q.g (q.cells n)
  hc : IsBlock w' q.pc [.int .u64 cnt]
  hs : IsBlock w' q.ps [.float .f64 sum]
  ht : IsBlock w' q.pt [.int .i64 created]
  ha : IsBlock w' q.arr (List.replicate n (.pointer none))
  only : Only (fun _ => False) w w'
  g1 : w.heap.size ≤ q.g
  g2 : w.heap.size ≤ q.arr
  g3 : w.heap.size ≤ q.pc
  g4 : w.heap.size ≤ q.ps
  g5 : w.heap.size ≤ q.pt
  n1 : q.arr ≠ q.g
  n2 : q.arr ≠ q.pc ∧ q.arr ≠ q.ps ∧ q.arr ≠ q.pt
  n3 : q.g ≠ q.pc ∧ q.g ≠ q.ps ∧ q.g ≠ q.pt

theorem cell_past {w : World} {a : Addr} {v : Value} (h : w.cell? a = some v) (o : Obj) : (w.alloc o).cell? a = some v :=
  (World.cell?_alloc_lt _ _ _ (World.block_lt_of_cell? w _ h)).trans h
theorem get_new (w : World) (o : Obj) (k : Nat) (h : k = w.heap.size) : (w.alloc o).heap[k]? = some o := by
  show (w.heap.push o)[k]? = _
  rw [Array.getElem?_push, if_pos h]
theorem get_old (w : World) (o : Obj) (k : Nat) (h : k < w.heap.size) : (w.alloc o).heap[k]? = w.heap[k]? := by
  show (w.heap.push o)[k]? = _
  rw [Array.getElem?_push, if_neg (by omega)]
theorem heap_alloc_get (w : World) (o : Obj) (k : Nat) : (w.alloc o).heap[k]? = if k = w.heap.size then some o else w.heap[k]? := by
  show (w.heap.push o)[k]? = _
  rw [Array.getElem?_push]


theorem close8 (w' w4 : World) (g pc ps pt arr n cnt sum : Nat) (created : Int) (hg : g = w4.heap.size)
    (h1 : w4.heap[pc]? = some (.cells #[.int .u64 cnt] 30 (0, 0))) (h2 : w4.heap[ps]? = some (.cells #[.float .f64 sum] 25 (0, 0))) (h3 : w4.heap[pt]? = some (.cells #[.int .i64 created] 183 (0, 0)))
    (h4 : w4.heap[arr]? = some (.cells (nils n) 177 (0, 0))) (ho : Only (fun _ => False) w' w4) (l1 : w'.heap.size ≤ pc) (l2 : w'.heap.size ≤ ps) (l3 : w'.heap.size ≤ pt) (l4 : w'.heap.size ≤ arr)
    (n1 : arr ≠ pc) (n2 : arr ≠ ps) (n3 : arr ≠ pt) :
    HisNew w' ((w4.alloc (.cells #[.pointer (some ⟨pc, 0, none⟩), .pointer (some ⟨ps, 0, none⟩), .slice (some ⟨arr, 0, none⟩) n n, .pointer (some ⟨pt, 0, none⟩), .pointer none, .pointer none, .pointer none,
    .slice none 0 0, .slice none 0 0, .slice none 0 0, .slice none 0 0, .slice none 0 0] 176)).drew) ⟨g, pc, ps, pt, arr⟩ n cnt sum created := by
  subst hg
  have i1 : IsBlock w4 pc [.int .u64 cnt] := ⟨30, h1⟩
  have i2 : IsBlock w4 ps [.float .f64 sum] := ⟨25, h2⟩
  have i3 : IsBlock w4 pt [.int .i64 created] := ⟨183, h3⟩
  have i4 : IsBlock w4 arr (List.replicate n (.pointer none)) := ⟨177, h4⟩
  have j1 := i1.lt
  have j2 := i2.lt
  have j3 := i3.lt
  have j4 := i4.lt
  have hs := ho.size
  exact {
    hg := (IsBlock.new w4 _ 176).drew
    hc := (i1.alloc _).drew
    hs := (i2.alloc _).drew
    ht := (i3.alloc _).drew
    ha := (i4.alloc _).drew
    only := (ho.alloc _).drew
    g1 := by show w'.heap.size ≤ w4.heap.size; omega
    g2 := l4
    g3 := l1
    g4 := l2
    g5 := l3
    n1 := by show arr ≠ w4.heap.size; omega
    n2 := ⟨n1, n2, n3⟩
    n3 := ⟨by show w4.heap.size ≠ pc; omega, by show w4.heap.size ≠ ps; omega, by show w4.heap.size ≠ pt; omega⟩ }

def findRegion (n : Nat) : Code → Option Code
  | .region id ops b => if id = n then some (.region id ops b) else none
  | .seq a b => match findRegion n a with
    | some c => some c
    | none => findRegion n b
  | .block _ c => findRegion n c
  | .scope c => findRegion n c
  | .loop c => findRegion n c
  | .cond _ a b => match findRegion n a with
    | some c => some c
    | none => findRegion n b
  | _ => none
noncomputable def writeRegion8 : Code := (Tryz.f239.body.bind (findRegion 8)).getD .skip

set_option maxRecDepth 100000 in
set_option maxHeartbeats 12800000 in
theorem writeRegion8_any (p : Pl) (s : HSt) (z7 z8 out : Nat) (os : List Value) (w' : World) (HW : WIn w' p s z7 z8 out os) (hbl : s.bounds.length ≤ 4611686018427) (x1 x2 x3 x4 x5 x7 x17 x18 x19 x20 x21 x22 x23 x24 x25 x26 x27 x28 x29 x30 x31 x32 x33 x34 x35 x36 x37 x38 x39 x40 x41 x42 x43 x44 x45 x46 x47 : Value) (ds : List Deferred)
    (K : Act → World → Prop) (Q : Exit → Act → World → Prop)
    (hK : ∀ (q : HisPl) (y48 y49 y50 y51 y52 y53 y54 y55 y56 y57 y58 y59 y60 y61 y62 y63 y64 y65 y66 y67 y68 y69 : Value) (wc : World), HisNew w' wc q s.bounds.length s.n (s.c s.hot).sum s.last →
      K ⟨#[Value.pointer (some ⟨p.h, 0, none⟩), x1, x2, x3, x4, x5, .int .u64 (s.n : Nat), x7, .pointer (some ⟨z8, 0, none⟩), .pointer (some ⟨q.g, 0, none⟩), undef, undef, undef, undef, undef, undef, undef, x17, x18, x19, x20, x21, x22, x23, x24, x25, x26, x27, x28, x29, x30, x31, x32, x33, x34, x35, x36, x37, x38, x39, x40, x41, x42, x43, x44, x45, x46, x47, y48, y49, y50, y51, y52, y53, y54, y55, y56, y57, y58, y59, y60, y61, y62, y63, y64, y65, y66, y67, y68, y69, undef, undef, undef, undef, undef, undef, undef, undef, undef, undef, undef, undef, undef, undef, undef, undef, undef, undef, undef, undef, undef, undef, undef, undef, undef, undef, undef, undef, undef, undef, undef, undef, undef, undef, undef, undef, undef, undef, undef, undef, undef, undef, undef, undef, undef, undef, undef, undef, undef, undef, undef, undef, undef, undef, undef, undef, undef, undef, undef, undef, undef, undef, undef, undef, undef, undef, undef, undef, undef, undef, undef, undef, undef, undef, undef, undef, undef, undef, undef, undef, undef, undef, undef, undef, undef, undef, undef, undef, undef, undef, undef, undef, undef, undef, undef, undef, undef, undef, undef, undef, undef, undef, undef, undef, undef, undef, undef, undef, undef, undef, undef, undef, undef, undef, undef, undef, undef, undef, undef, undef, undef, undef, undef, undef, undef, undef, undef, undef, undef, undef, undef, undef, undef, undef, undef, undef, undef, undef, undef, undef, undef, undef, undef, undef, undef, undef, undef, undef, undef, undef, undef, undef, undef, undef, undef, undef, undef, undef, undef, undef, undef, undef, undef, undef, undef, undef, undef, undef, undef, undef, undef, undef, undef, undef, undef, undef, undef, undef, undef, undef, undef, undef, undef, undef, undef, undef, undef, undef, undef, undef, undef, undef, undef, undef, undef, undef, undef, undef, undef, undef, undef, undef, undef, undef, undef, undef, undef, undef, undef, undef, undef, undef, undef, undef, undef, undef, undef, undef, undef, undef, undef, undef], ds⟩ wc) :
    writeRegion8.wp Tryz.prog (Exit.then K Q) ⟨#[Value.pointer (some ⟨p.h, 0, none⟩), x1, x2, x3, x4, x5, .int .u64 (s.n : Nat), x7, .pointer (some ⟨z8, 0, none⟩), undef, undef, undef, undef, undef, undef, undef, undef, x17, x18, x19, x20, x21, x22, x23, x24, x25, x26, x27, x28, x29, x30, x31, x32, x33, x34, x35, x36, x37, x38, x39, x40, x41, x42, x43, x44, x45, x46, x47, undef, undef, undef, undef, undef, undef, undef, undef, undef, undef, undef, undef, undef, undef, undef, undef, undef, undef, undef, undef, undef, undef, undef, undef, undef, undef, undef, undef, undef, undef, undef, undef, undef, undef, undef, undef, undef, undef, undef, undef, undef, undef, undef, undef, undef, undef, undef, undef, undef, undef, undef, undef, undef, undef, undef, undef, undef, undef, undef, undef, undef, undef, undef, undef, undef, undef, undef, undef, undef, undef, undef, undef, undef, undef, undef, undef, undef, undef, undef, undef, undef, undef, undef, undef, undef, undef, undef, undef, undef, undef, undef, undef, undef, undef, undef, undef, undef, undef, undef, undef, undef, undef, undef, undef, undef, undef, undef, undef, undef, undef, undef, undef, undef, undef, undef, undef, undef, undef, undef, undef, undef, undef, undef, undef, undef, undef, undef, undef, undef, undef, undef, undef, undef, undef, undef, undef, undef, undef, undef, undef, undef, undef, undef, undef, undef, undef, undef, undef, undef, undef, undef, undef, undef, undef, undef, undef, undef, undef, undef, undef, undef, undef, undef, undef, undef, undef, undef, undef, undef, undef, undef, undef, undef, undef, undef, undef, undef, undef, undef, undef, undef, undef, undef, undef, undef, undef, undef, undef, undef, undef, undef, undef, undef, undef, undef, undef, undef, undef, undef, undef, undef, undef, undef, undef, undef, undef, undef, undef, undef, undef, undef, undef, undef, undef, undef, undef, undef, undef, undef, undef, undef, undef, undef, undef, undef, undef, undef, undef, undef, undef, undef, undef, undef, undef, undef, undef, undef, undef, undef, undef, undef, undef, undef, undef], ds⟩ w' := by
  conv => arg 2; whnf
  have k7 : w'.cell? ⟨p.h, 7, none⟩ = some (.slice (some ⟨p.u, 0, none⟩) s.bounds.length p.ucap) := HW.hh.cell (i := 7) rfl
  have k15 : w'.cell? ⟨p.h, 15, none⟩ = some (.int .i64 s.last) := HW.hh.cell (i := 15) rfl
  have k8 : w'.cell? ⟨z8, 0, none⟩ = some (.pointer (some ⟨p.c s.hot, 0, none⟩)) := HW.h8.cell rfl
  have k0 : w'.cell? ⟨p.c s.hot, 0, none⟩ = some (.int .u64 (s.c s.hot).sum) := (HW.hc s.hot).cell (i := 0) rfl
  have hmk := make_nils s.bounds.length hbl
  have HK := Lib.hid hK
  clear HW hbl hK
  go_region_held3 (fun w'' => w''.cell? ⟨p.h, 7, none⟩ = some (.slice (some ⟨p.u, 0, none⟩) s.bounds.length p.ucap) ∧ w''.cell? ⟨p.h, 15, none⟩ = some (.int .i64 s.last) ∧ w''.cell? ⟨z8, 0, none⟩ = some (.pointer (some ⟨p.c s.hot, 0, none⟩)) ∧ w''.cell? ⟨p.c s.hot, 0, none⟩ = some (.int .u64 (s.c s.hot).sum))
    (refine ⟨?_, ?_, ?_, ?_⟩ <;> (simp only [World.cell?_drew]; repeat (first | assumption | apply cell_past)))
    (first
      | (go_at_call 248; refine (ofU64_any _ _).mono ?_; rintro e w' ⟨rfl, rfl⟩)
      | (go_at_call 249; refine (ofF64_any _ _).mono ?_; rintro e w' ⟨rfl, rfl⟩))
  all_goals
    refine HK.out ⟨_, _, _, _, _⟩ _ _ _ _ _ _ _ _ _ _ _ _ _ _ _ _ _ _ _ _ _ _ _ (close8 w' _ _ _ _ _ _ _ _ _ _ ?_ ?_ ?_ ?_ ?_ (((((Only.refl _ w').alloc _).alloc _).alloc _).alloc _) ?_ ?_ ?_ ?_ ?_ ?_ ?_)
    · simp only [World.size_alloc]
    · repeat (first | exact get_new _ _ _ (by simp) | rw [get_old _ _ _ (by simp <;> omega)])
    · repeat (first | exact get_new _ _ _ (by simp) | rw [get_old _ _ _ (by simp <;> omega)])
    · repeat (first | exact get_new _ _ _ (by simp) | rw [get_old _ _ _ (by simp <;> omega)])
    · repeat (first | exact get_new _ _ _ (by simp) | rw [get_old _ _ _ (by simp <;> omega)])
    all_goals omega
end Go.Proofs.YtebjclmbacmilaaGreatDoor
