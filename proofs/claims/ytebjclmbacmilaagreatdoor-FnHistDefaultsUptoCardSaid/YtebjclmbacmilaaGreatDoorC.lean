/- The words of memory: a block known whole, a world that differs from another one in some blocks alone. No conditions. -/
import Derived.WalkKit
import Derived.WalkSpells
import Derived.Deep.Draws
namespace Go.Proofs.YtebjclmbacmilaaGreatDoor
open Go.RowKit

/-- Block b holds just these cells, none of them frozen. -/
def IsBlock (w : World) (b : Nat) (cs : List Value) : Prop := ∃ T, w.heap[b]? = some (.cells cs.toArray T (0, 0))

theorem IsBlock.lt {w : World} {b : Nat} {cs : List Value} (h : IsBlock w b cs) : b < w.heap.size := by
  obtain ⟨T, h⟩ := h
  rcases Nat.lt_or_ge b w.heap.size with h' | h'
  · exact h'
  · rw [Array.getElem?_eq_none h'] at h; cases h

theorem IsBlock.cell {w : World} {b : Nat} {cs : List Value} (h : IsBlock w b cs) {i : Nat} {v : Value} (hi : cs[i]? = some v) : w.cell? ⟨b, i, none⟩ = some v := by
  obtain ⟨T, h⟩ := h
  simp [World.cell?, h, hi]

theorem IsBlock.free {w : World} {b : Nat} {cs : List Value} (h : IsBlock w b cs) (i : Nat) : w.frozen? ⟨b, i, none⟩ = false := by
  obtain ⟨T, h⟩ := h
  simp [World.frozen?, h]

theorem IsBlock.of_heap {w w' : World} {b : Nat} {cs : List Value} (h : IsBlock w b cs) (he : w'.heap[b]? = w.heap[b]?) : IsBlock w' b cs := by
  obtain ⟨T, h⟩ := h
  exact ⟨T, he.trans h⟩

theorem heap_setCell_ne (w : World) (a : Addr) (v : Value) {k : Nat} (h : k ≠ a.block) : (w.setCell a v).heap[k]? = w.heap[k]? := Below.heap_setCell w a v k h

theorem IsBlock.set {w : World} {b : Nat} {cs : List Value} (h : IsBlock w b cs) (i : Nat) (v : Value) : IsBlock (w.setCell ⟨b, i, none⟩ v) b (cs.set i v) := by
  obtain ⟨T, h⟩ := h
  refine ⟨T, ?_⟩
  simp [World.setCell, Array.getElem?_modify, h]

theorem IsBlock.set_ne {w : World} {b : Nat} {cs : List Value} (h : IsBlock w b cs) {a : Addr} (hne : b ≠ a.block) (v : Value) : IsBlock (w.setCell a v) b cs :=
  h.of_heap (heap_setCell_ne w a v hne)

theorem IsBlock.drewN {w : World} {b : Nat} {cs : List Value} (h : IsBlock w b cs) (n : Nat) : IsBlock (w.drewN n) b cs := h
theorem IsBlock.drew {w : World} {b : Nat} {cs : List Value} (h : IsBlock w b cs) : IsBlock w.drew b cs := h
theorem IsBlock.alloc {w : World} {b : Nat} {cs : List Value} (h : IsBlock w b cs) (o : Obj) : IsBlock (w.alloc o) b cs :=
  h.of_heap (Below.heap_alloc w o b h.lt)
theorem IsBlock.new (w : World) (cs : List Value) (T : TypeId) : IsBlock (w.alloc (.cells cs.toArray T)) w.heap.size cs := by
  refine ⟨T, ?_⟩
  show (w.heap.push _)[w.heap.size]? = _
  simp

/-- w' is w but for the blocks of S, new blocks and draws. -/
structure Only (S : Nat → Prop) (w w' : World) : Prop where
  os : w'.os = w.os
  tape : w'.tape = w.tape
  output : w'.output = w.output
  size : w.heap.size ≤ w'.heap.size
  block : ∀ k, k < w.heap.size → ¬ S k → w'.heap[k]? = w.heap[k]?

theorem Only.refl (S : Nat → Prop) (w : World) : Only S w w := ⟨rfl, rfl, rfl, Nat.le_refl _, fun _ _ _ => rfl⟩
theorem Only.trans {S : Nat → Prop} {a b c : World} (h : Only S a b) (k : Only S b c) : Only S a c :=
  ⟨k.os.trans h.os, k.tape.trans h.tape, k.output.trans h.output, Nat.le_trans h.size k.size,
    fun i hi hs => (k.block i (Nat.lt_of_lt_of_le hi h.size) hs).trans (h.block i hi hs)⟩
theorem Only.mono {S T : Nat → Prop} {w w' : World} (h : Only S w w') (hst : ∀ k, k < w.heap.size → S k → T k) : Only T w w' :=
  ⟨h.os, h.tape, h.output, h.size, fun k hk hs => h.block k hk (fun hS => hs (hst k hk hS))⟩
theorem Only.alloc {S : Nat → Prop} {a w : World} (h : Only S a w) (o : Obj) : Only S a (w.alloc o) :=
  h.trans ⟨rfl, rfl, rfl, by simp, fun k hk _ => Below.heap_alloc w o k hk⟩
theorem Only.setCell {S : Nat → Prop} {a w : World} (h : Only S a w) {p : Addr} (hp : S p.block ∨ a.heap.size ≤ p.block) (v : Value) : Only S a (w.setCell p v) := by
  refine ⟨h.os, h.tape, h.output, by simpa using h.size, fun k hk hs => ?_⟩
  rw [heap_setCell_ne w p v (fun e => by subst e; rcases hp with hp | hp; exact hs hp; omega)]
  exact h.block k hk hs
theorem Only.drewN {S : Nat → Prop} {a w : World} (h : Only S a w) (n : Nat) : Only S a (w.drewN n) := ⟨h.os, h.tape, h.output, h.size, h.block⟩
theorem Only.drew {S : Nat → Prop} {a w : World} (h : Only S a w) : Only S a w.drew := ⟨h.os, h.tape, h.output, h.size, h.block⟩
theorem Only.below {S : Nat → Prop} {w w' : World} {B : Nat} (h : Only S w w') (hB : B ≤ w.heap.size) (hS : ∀ k, S k → B ≤ k) : Below B w w' :=
  ⟨h.os, h.tape, h.output, h.size, fun k hk => h.block k (by omega) (fun hs => by have := hS k hs; omega)⟩
theorem Only.of_below {w w' : World} {B : Nat} (h : Below B w w') : Only (fun k => B ≤ k) w w' :=
  ⟨h.os, h.tape, h.output, h.size, fun k _ hs => h.block k (by omega)⟩
theorem Only.isBlock {S : Nat → Prop} {w w' : World} (h : Only S w w') {b : Nat} {cs : List Value} (hb : IsBlock w b cs) (hs : ¬ S b) : IsBlock w' b cs :=
  hb.of_heap (h.block b hb.lt hs)
theorem Only.ownsRow {S : Nat → Prop} {w w' : World} (h : Only S w w') {base : Nat} {e : TypeId} {size : Nat} {v : Value} {n : Nat} {xs : List Value}
    (hr : w.ownsRow base e size v n xs) (hs : ∀ k, v.ownBlock = some k → ¬ S k) : w'.ownsRow base e size v n xs := by
  have hlt := hr.lt
  obtain ⟨h1, h2⟩ := hr
  refine ⟨h1, ?_⟩
  rcases h2 with h2 | ⟨g, cap, cur, hv, hg, hh, r⟩
  · exact Or.inl h2
  · have hob : v.ownBlock = some g := by rw [hv]; rfl
    exact Or.inr ⟨g, cap, cur, hv, hg, (h.block g (hlt g hob).2 (hs g hob)).trans hh, r⟩
theorem Only.grown {w w' : World} {row : Option Nat} (hg : w.grownBy w' row) : Only (fun k => row = some k) w w' :=
  ⟨hg.os, hg.tape, hg.output, hg.size, fun k hk hs => hg.block k hk (fun e => hs e.symm)⟩
end Go.Proofs.YtebjclmbacmilaaGreatDoor
