/- What Write leaves of a native histogram: relations between its statements. No program is walked but in two small functions. Conditions: as stated. -/
import Derived.Test.YtebjclmbacmilaaGreatDoorxAn
import Derived.Test.YtebjclmbacmilaaGreatDoorWm
import Derived.Test.YtebjclmbacmilaaGreatDoorxWl
namespace Go.Proofs.YtebjclmbacmilaaGreatDoor
open Go.RowKit

theorem isEnabled_any (h n : Nat) (ttl : Int) (w : World) (c : w.cell? ⟨h, n + 2, none⟩ = some (.int .i64 ttl)) : Calls Tryz.prog 259 #[.pointer (some ⟨h, n, none⟩)] w fun e w' => e = .returned (.bool (decide (ttl ≠ -1))) ∧ w' = w := by
  go_enter Tryz.func259, Tryz.ntmps259
  go_wp2
  go_ret
  refine ⟨?_, rfl⟩
  by_cases h : ttl = -1 <;> simp [h]

/-- Inside Write of a histogram with native buckets and no classic ones. -/
structure WNIn (w : World) (p : Pl) (s : HSt) (Z : Bool → Nat → Prop) (m z7 z8 out : Nat) (os : List Value) : Prop where
  hh : IsBlock w p.h ((((s.cells p).set 7 (.slice none 0 0)).set 3 (.int .i32 1)).set 0 (.int .u64 (idxVal s.n (!s.hot))))
  hc : ∀ i, IsBlock w (p.c i) ((s.c i).cells (p.b i))
  hx : IsBlock w p.ex [.nilIface]
  nst : ∀ i, NSt w (Z i) (s.c i).pos (s.c i).neg m
  h7 : IsBlock w z7 [.pointer (some ⟨p.c (!s.hot), 0, none⟩)]
  h8 : IsBlock w z8 [.pointer (some ⟨p.c s.hot, 0, none⟩)]
  ho : IsBlock w out os
/-- All blocks that were there. -/
def NBlk (p : Pl) (Z : Bool → Nat → Prop) (z7 z8 out k : Nat) : Prop := k = p.h ∨ (∃ i, k = p.c i) ∨ k = p.ex ∨ k = z7 ∨ k = z8 ∨ k = out ∨ ∃ i, Z i k
theorem WNIn.mono {w w' : World} {p : Pl} {s : HSt} {Z : Bool → Nat → Prop} {m z7 z8 out : Nat} {os : List Value} (W : WNIn w p s Z m z7 z8 out os) {S : Nat → Prop} (ho : Only S w w') (hS : ∀ k, NBlk p Z z7 z8 out k → ¬ S k) : WNIn w' p s Z m z7 z8 out os where
  hh := ho.isBlock W.hh (hS _ (.inl rfl))
  hc := fun i => ho.isBlock (W.hc i) (hS _ (.inr (.inl ⟨i, rfl⟩)))
  hx := ho.isBlock W.hx (hS _ (.inr (.inr (.inl rfl))))
  nst := fun i => (W.nst i).kept ho (fun k hk => hS k (.inr (.inr (.inr (.inr (.inr (.inr ⟨i, hk⟩)))))))
  h7 := ho.isBlock W.h7 (hS _ (.inr (.inr (.inr (.inl rfl)))))
  h8 := ho.isBlock W.h8 (hS _ (.inr (.inr (.inr (.inr (.inl rfl))))))
  ho := ho.isBlock W.ho (hS _ (.inr (.inr (.inr (.inr (.inr (.inl rfl)))))))

/-- Between the statements of Write: the new histogram's cells so far. -/
structure SN (w0 : World) (p : Pl) (s : HSt) (Z : Bool → Nat → Prop) (m z7 z8 out : Nat) (os : List Value) (q : HisPl) (A : Nat) (vals : List Value) (wr : World) : Prop where
  win : WNIn wr p s Z m z7 z8 out os
  hg : IsBlock wr q.g vals
  hc : IsBlock wr q.pc [.int .u64 s.n]
  hs : IsBlock wr q.ps [.float .f64 (s.c s.hot).sum]
  ht : IsBlock wr q.pt [.int .i64 s.last]
  lo : ∀ k, NBlk p Z z7 z8 out k → k < A
  ge : A ≤ q.g ∧ A ≤ q.pc ∧ A ≤ q.ps ∧ A ≤ q.pt
  ne : q.g ≠ q.pc ∧ q.g ≠ q.ps ∧ q.g ≠ q.pt
  aw : w0.heap.size ≤ A
  only : Only (fun k => k = p.h ∨ k = out) w0 wr
theorem SN.kept {w0 : World} {p : Pl} {s : HSt} {Z : Bool → Nat → Prop} {m z7 z8 out : Nat} {os : List Value} {q : HisPl} {A : Nat} {vals : List Value} {wr w' : World} (H : SN w0 p s Z m z7 z8 out os q A vals wr) (ho : Only (fun _ => False) wr w') : SN w0 p s Z m z7 z8 out os q A vals w' :=
  ⟨H.win.mono ho (fun _ _ => id), ho.isBlock H.hg id, ho.isBlock H.hc id, ho.isBlock H.hs id, ho.isBlock H.ht id, H.lo, H.ge, H.ne, H.aw, H.only.trans (ho.mono (fun _ _ e => e.elim))⟩
theorem SN.store {w0 : World} {p : Pl} {s : HSt} {Z : Bool → Nat → Prop} {m z7 z8 out : Nat} {os : List Value} {q : HisPl} {A : Nat} {vals : List Value} {wr : World} (H : SN w0 p s Z m z7 z8 out os q A vals wr) (i : Nat) (v : Value) : SN w0 p s Z m z7 z8 out os q A (vals.set i v) (wr.setCell ⟨q.g, i, none⟩ v) := by
  have ho : Only (fun k => k = q.g) wr (wr.setCell ⟨q.g, i, none⟩ v) := (Only.refl (fun k => k = q.g) wr).setCell (p := ⟨q.g, i, none⟩) (.inl rfl) _
  have hg := H.ge.1
  have hw := H.aw
  exact ⟨H.win.mono ho (fun k hk e => by have := H.lo k hk; omega), H.hg.set i v, ho.isBlock H.hc H.ne.1.symm, ho.isBlock H.hs H.ne.2.1.symm, ho.isBlock H.ht H.ne.2.2.symm, H.lo, H.ge, H.ne, H.aw, Only.widen' H.only ho (fun j hj => .inr (by omega))⟩

theorem MOut.kept {w w' : World} {B : Nat} {vs vd : Value} {t : MS} (h : MOut w B vs vd t) {S : Nat → Prop} (ho : Only S w w') (hS : ∀ k, S k → k < B) : MOut w' B vs vd t := by
  obtain ⟨L, h1, h2, h3⟩ := h.ex
  refine ⟨⟨L, ho.ownsRow h1 (fun k hk e => ?_), h2, fun s hs => ?_⟩, ho.ownsRow h.vd (fun k hk e => ?_)⟩
  · have := hS k e; have := (h1.lt k hk).1; omega
  · have hl := (h3 s hs).low
    exact (h3 s hs).kept ho (fun e => by have := hS _ e; omega) (fun e => by have := hS _ e; omega) (fun e => by have := hS _ e; omega)
  · have := hS k e; have := (h.vd.lt k hk).1; omega
theorem MOut.slices {w : World} {B : Nat} {vs vd : Value} {t : MS} (h : MOut w B vs vd t) : (∃ a c, vs = .slice a t.sp.length c) ∧ ∃ a c, vd = .slice a t.ds.length c := by
  obtain ⟨L, h1, h2, h3⟩ := h.ex
  have hl : L.length = t.sp.length := by rw [← h2, List.length_map]
  rw [hl] at h1
  exact ⟨ownsRow_slice h1, ownsRow_slice h.vd⟩
/-- The span that says: this is a native histogram. -/
def noopMS : MS := ⟨[(0, 0)], [], 0, 0⟩

/-- Where a written native histogram lies. -/
structure NQ where
  g : Nat
  pc : Nat
  ps : Nat
  pt : Nat
  arr : Nat
  psch : Nat
  pzt : Nat
  pzc : Nat
def NQ.cells (q : NQ) (vns vnd vps vpd : Value) : List Value :=
  [.pointer (some ⟨q.pc, 0, none⟩), .pointer (some ⟨q.ps, 0, none⟩), .slice (some ⟨q.arr, 0, none⟩) 0 0, .pointer (some ⟨q.pt, 0, none⟩), .pointer (some ⟨q.psch, 0, none⟩), .pointer (some ⟨q.pzt, 0, none⟩), .pointer (some ⟨q.pzc, 0, none⟩), vns, vnd, vps, vpd, .slice none 0 0]
structure NDone (w : World) (A : Nat) (q : NQ) (cnt sum zt zc : Nat) (created sch : Int) (vns vnd vps vpd : Value) (tn tp : MS) : Prop where
  hg : IsBlock w q.g (q.cells vns vnd vps vpd)
  hc : IsBlock w q.pc [.int .u64 cnt]
  hs : IsBlock w q.ps [.float .f64 sum]
  ht : IsBlock w q.pt [.int .i64 created]
  hsch : IsBlock w q.psch [.int .i32 sch]
  hzt : IsBlock w q.pzt [.float .f64 zt]
  hzc : IsBlock w q.pzc [.int .u64 zc]
  neg : MOut w A vns vnd tn
  pos : MOut w A vps vpd tp
  low : A ≤ q.g ∧ A ≤ q.pc ∧ A ≤ q.ps ∧ A ≤ q.pt ∧ A ≤ q.psch ∧ A ≤ q.pzt ∧ A ≤ q.pzc
theorem NDone.mono {w w' : World} {A : Nat} {q : NQ} {cnt sum zt zc : Nat} {created sch : Int} {vns vnd vps vpd : Value} {tn tp : MS} (D : NDone w A q cnt sum zt zc created sch vns vnd vps vpd tn tp) {S : Nat → Prop} (ho : Only S w w') (hS : ∀ k, S k → k < A) : NDone w' A q cnt sum zt zc created sch vns vnd vps vpd tn tp := by
  obtain ⟨l1, l2, l3, l4, l5, l6, l7⟩ := D.low
  exact ⟨ho.isBlock D.hg (fun e => by have := hS _ e; omega), ho.isBlock D.hc (fun e => by have := hS _ e; omega), ho.isBlock D.hs (fun e => by have := hS _ e; omega), ho.isBlock D.ht (fun e => by have := hS _ e; omega), ho.isBlock D.hsch (fun e => by have := hS _ e; omega), ho.isBlock D.hzt (fun e => by have := hS _ e; omega), ho.isBlock D.hzc (fun e => by have := hS _ e; omega),
    D.neg.kept ho hS, D.pos.kept ho hS, D.low⟩
end Go.Proofs.YtebjclmbacmilaaGreatDoor
