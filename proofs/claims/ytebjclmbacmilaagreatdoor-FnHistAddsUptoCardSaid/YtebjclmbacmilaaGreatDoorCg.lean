/- What the cards of the laws over slices of floats want: the argument opened, the bound, a witness. Conditions: as stated. -/
import Derived.Test.YtebjclmbacmilaaGreatDoorCd
import Derived.Test.YtebjclmbacmilaaGreatDoorRg
import Derived.Deep.Slices
import Derived.Deep.DeepHandedRow
namespace Go.Proofs.YtebjclmbacmilaaGreatDoor
open Go.ChangeShapes Go.WideShapes Go.ChangeAt Go.RowKit Go.Deep

theorem and_both {a b : Bool} (ha : a = true) (hb : b = true) : (a && b) = true := by rw [ha, hb]; rfl
theorem bulk_one {H : Type} (d : DataW H) : 1 ≤ Rows.uptoBulk d := by
  cases d with
  | lit l => cases l <;> simp [Rows.uptoBulk]
  | nil => simp [Rows.uptoBulk]
  | ptr d => simp [Rows.uptoBulk]
  | slice elems spare => simp [Rows.uptoBulk]
  | agg parts => simp [Rows.uptoBulk]
  | iface t d => simp [Rows.uptoBulk]
  | map entries => simp [Rows.uptoBulk]
  | held h => simp [Rows.uptoBulk]
theorem bulk_len {H : Type} (l : List (DataW H)) : l.length ≤ Rows.uptoBulkAll l := by
  induction l with
  | nil => simp [Rows.uptoBulkAll]
  | cons x r ih => have := bulk_one x; simp only [Rows.uptoBulkAll, List.length_cons]; omega

theorem laidOut : laidOutB Tryz.prog = true := by kernel_rfl
theorem cells25 : Tryz.prog.cellsOf 25 = 1 := by kernel_rfl

set_option maxRecDepth 100000 in
/-- A slice of floats that came in. -/
theorem open_floats {H : Type} {enc : TypeId × Value → H} {W : World} {b0 : Nat} {v : Value} {d : DataW H} {p : List MemPlace} (hval : Value.okWide Tryz.prog W .any b0 22 v) (hd : DataW.Trod enc Tryz.prog W 0 (fun _ => true) true 22 v d p) :
    ∃ (ba : Option Addr) (bc : Nat) (bs : List Nat), v = .slice ba bs.length bc ∧ InCells W ba bs ∧ SrcIs W (.slice ba bs.length bc) 1 bs.length (f64s bs) ∧ bs.length ≤ Rows.uptoBulk d := by
  obtain ⟨a0, len, cap, rfl⟩ := okWide_slice Tryz.underlying22 hval
  obtain ⟨fuel, hf⟩ := hd
  rcases open_slice1 Tryz.underlying22 cells25 hf with ⟨hcs, _⟩ | ⟨a, len', cap', m, n, V, D, Pl, hcs, _, hl, hm, hmm, hx, hV⟩
  · simp [Value.cells] at hcs
    obtain ⟨rfl, rfl, rfl⟩ := hcs
    exact ⟨none, 0, [], rfl, fun i hi => by simp at hi, .inl ⟨rfl, rfl, rfl⟩, Nat.zero_le _⟩
  · simp [Value.cells] at hcs
    obtain ⟨rfl, rfl, rfl⟩ := hcs
    simp only [if_true] at hmm
    have hfl : ∀ i, i < m → ∃ b, V i = .float .f64 b := fun i hi => by
      have h := (hV i hi).2
      cases n with
      | zero => simp [DataW.trod] at h
      | succ n =>
        cases hv : V i <;> simp [DataW.trod, Tryz.underlying25, hv] at h
        rename_i k b
        exact ⟨b, by rw [h.1.1]⟩
    obtain ⟨B, hB⟩ := choose_lt (α := Nat) (p := fun i b => V i = .float .f64 b) hfl
    have hin : InCells W (some a) ((List.range len).map B) := fun i hi => by
      simp only [List.length_map, List.length_range] at hi
      have h0 := (hV i (by omega)).1
      rw [hB i (by omega)] at h0
      obtain ⟨b, off, spot⟩ := a
      have hspot : spot = none := by
        have h1 := (hV 0 (by omega)).1
        simpa [Addr.add] using World.cell?_spot h1
      subst hspot
      refine ⟨b, off, rfl, ?_⟩
      rw [Go.WideShapes.add_plain] at h0
      rw [h0]
      simp [wd, List.getD_eq_getElem?_getD, hi]
    have hlen : ((List.range len).map B).length = len := by simp
    refine ⟨some a, cap, (List.range len).map B, by rw [hlen], hin, ?_, ?_⟩
    · rw [hlen]
      refine .inr ⟨a, cap, rfl, by simp [f64s], fun j u hj => ?_⟩
      have hjl : j < len := by
        by_cases h : j < len
        · exact h
        · rw [List.getElem?_eq_none (by simp [f64s]; omega)] at hj; cases hj
      have h0 := (hV j (by omega)).1
      rw [hB j (by omega)] at h0
      rw [h0]
      simp [f64s, hjl] at hj
      rw [← hj]
    · simp only [Prod.mk.injEq] at hx
      rw [hx.1, hlen]
      have := bulk_len ((List.range len).map D)
      simp only [List.length_map, List.length_range] at this
      simp only [Rows.uptoBulk]
      omega

/-- A witness in a world of the row's own list. -/
theorem witness_laid {H : Type} {enc : TypeId × Value → H} {os : Os} {f : FuncId} {fn : Func} {s : OpenSpec} {conds : List PathCond} {apart : Bool} {laid : List (String × DataW Unit)} (w0 : World) (args : Array Value) (hos : w0.os = os)
    (hsh : (w0.forCall (fun _ _ => 0) ⟨#[], args, []⟩).Shaped Tryz.checked.prog)
    (hok : Input.okWideB Tryz.checked.prog (w0.forCall (fun _ _ => 0) ⟨#[], args, []⟩) f ⟨#[], args, []⟩ = true)
    (hrow : s.preRow enc Tryz.checked.prog fn conds apart laid (w0.forCall (fun _ _ => 0) ⟨#[], args, []⟩).memory args) :
    ∃ (w : World) (tape : Tape) (i : Input), w.os = os ∧ (w.forCall tape i).Shaped Tryz.checked.prog ∧ i.vars = [] ∧ Input.okWide Tryz.checked.prog (w.forCall tape i) .any w.heap.size f i ∧
      s.preRow enc Tryz.checked.prog fn conds apart laid (w.forCall tape i).memory i.args ∧ ({ } : Assume).holds Tryz.checked.prog (lone (Frame.enter Tryz.checked.prog f i.args .normal) [] (w.forCall tape i)) :=
  ⟨w0, fun _ _ => 0, ⟨#[], args, []⟩, hos, hsh, (Input.okWide_of_okWideB (base := 0) hok).1, (Input.okWide_of_okWideB hok).2, hrow, by
    simp only [Assume.holds]
    exact ⟨by simp, by simp, fun _ => Modest.zero, by simp, by simp⟩⟩
end Go.Proofs.YtebjclmbacmilaaGreatDoor
