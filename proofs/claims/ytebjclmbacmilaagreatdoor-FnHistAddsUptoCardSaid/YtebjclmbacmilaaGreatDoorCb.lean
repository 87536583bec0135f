/- What the cards of the laws over slices of bools and of ints want: the argument opened. Conditions: as stated. -/
import Derived.Test.YtebjclmbacmilaaGreatDoorCg
import Derived.Test.YtebjclmbacmilaaGreatDoorCo
import Derived.Test.YtebjclmbacmilaaGreatDoorFt
namespace Go.Proofs.YtebjclmbacmilaaGreatDoor
open Go.ChangeShapes Go.WideShapes Go.ChangeAt Go.RowKit Go.Deep

theorem cells4 : Tryz.prog.cellsOf 4 = 1 := by kernel_rfl
theorem cells3 : Tryz.prog.cellsOf 3 = 1 := by kernel_rfl

set_option maxRecDepth 100000 in
/-- A slice of bools that came in. -/
theorem open_bools {H : Type} {enc : TypeId × Value → H} {W : World} {b0 : Nat} {v : Value} {d : DataW H} {p : List MemPlace} (hval : Value.okWide Tryz.prog W .any b0 55 v) (hd : DataW.Trod enc Tryz.prog W 0 (fun _ => true) true 55 v d p) :
    ∃ (ba : Option Addr) (bc : Nat) (bs : List Bool), v = .slice ba bs.length bc ∧ InBools W ba bs ∧ bs.length ≤ Rows.uptoBulk d := by
  obtain ⟨a0, len, cap, rfl⟩ := okWide_slice Tryz.underlying55 hval
  obtain ⟨fuel, hf⟩ := hd
  rcases open_slice1 Tryz.underlying55 cells4 hf with ⟨hcs, _⟩ | ⟨a, len', cap', m, n, V, D, Pl, hcs, _, hl, hm, hmm, hx, hV⟩
  · simp [Value.cells] at hcs
    obtain ⟨rfl, rfl, rfl⟩ := hcs
    exact ⟨none, 0, [], rfl, fun i hi => by simp at hi, Nat.zero_le _⟩
  · simp [Value.cells] at hcs
    obtain ⟨rfl, rfl, rfl⟩ := hcs
    simp only [if_true] at hmm
    have hfl : ∀ i, i < m → ∃ b, V i = .bool b := fun i hi => by
      have h := (hV i hi).2
      cases n with
      | zero => simp [DataW.trod] at h
      | succ n =>
        cases hv : V i <;> simp [DataW.trod, Tryz.underlying4, hv] at h
        rename_i b
        exact ⟨b, rfl⟩
    obtain ⟨B, hB⟩ := choose_lt (α := Bool) (p := fun i b => V i = .bool b) hfl
    have hin : InBools W (some a) ((List.range len).map B) := fun i hi => by
      simp only [List.length_map, List.length_range] at hi
      have h0 := (hV i (by omega)).1
      rw [hB i (by omega)] at h0
      obtain ⟨b, off, spot⟩ := a
      have hspot : spot = none := by
        have h1 := (hV 0 (by omega)).1
        simpa [Addr.add] using World.cell?_spot h1
      subst hspot
      refine ⟨b, off, rfl, ?_⟩
      rw [Go.WideShapes.add_plain] at h0
      rw [h0]
      simp [List.getD_eq_getElem?_getD, hi]
    have hlen : ((List.range len).map B).length = len := by simp
    refine ⟨some a, cap, (List.range len).map B, by rw [hlen], hin, ?_⟩
    · simp only [Prod.mk.injEq] at hx
      rw [hx.1, hlen]
      have := bulk_len ((List.range len).map D)
      simp only [List.length_map, List.length_range] at this
      simp only [Rows.uptoBulk]
      omega


set_option maxRecDepth 100000 in
/-- A slice of ints that came in. -/
theorem open_ints23 {H : Type} {enc : TypeId × Value → H} {W : World} {b0 : Nat} {v : Value} {d : DataW H} {p : List MemPlace} (hval : Value.okWide Tryz.prog W .any b0 23 v) (hd : DataW.Trod enc Tryz.prog W 0 (fun _ => true) true 23 v d p) :
    ∃ (ba : Option Addr) (bc : Nat) (bs : List Int), v = .slice ba bs.length bc ∧ InInts W ba bs ∧ bs.length ≤ Rows.uptoBulk d := by
  obtain ⟨a0, len, cap, rfl⟩ := okWide_slice Tryz.underlying23 hval
  obtain ⟨fuel, hf⟩ := hd
  rcases open_slice1 Tryz.underlying23 cells3 hf with ⟨hcs, _⟩ | ⟨a, len', cap', m, n, V, D, Pl, hcs, _, hl, hm, hmm, hx, hV⟩
  · simp [Value.cells] at hcs
    obtain ⟨rfl, rfl, rfl⟩ := hcs
    exact ⟨none, 0, [], rfl, fun i hi => by simp at hi, Nat.zero_le _⟩
  · simp [Value.cells] at hcs
    obtain ⟨rfl, rfl, rfl⟩ := hcs
    simp only [if_true] at hmm
    have hfl : ∀ i, i < m → ∃ b : Int, V i = .int .i64 b ∧ -9223372036854775808 ≤ b ∧ b ≤ 9223372036854775807 := fun i hi => by
      have h := (hV i hi).2
      cases n with
      | zero => simp [DataW.trod] at h
      | succ n =>
        cases hv : V i <;> simp [DataW.trod, Tryz.underlying3, hv] at h
        rename_i k b
        have hwf := h.1.2
        simp only [Lit.wf, Bool.and_eq_true, decide_eq_true_eq] at hwf
        have e1 : IntKind.i64.min = -9223372036854775808 := by decide
        have e2 : IntKind.i64.max = 9223372036854775807 := by decide
        rw [e1, e2] at hwf
        exact ⟨b, by rw [h.1.1], hwf.1, hwf.2⟩
    obtain ⟨B, hB⟩ := choose_lt (α := Int) (p := fun i b => V i = .int .i64 b ∧ -9223372036854775808 ≤ b ∧ b ≤ 9223372036854775807) hfl
    have hin : InInts W (some a) ((List.range len).map B) := fun i hi => by
      simp only [List.length_map, List.length_range] at hi
      have h0 := (hV i (by omega)).1
      rw [(hB i (by omega)).1] at h0
      obtain ⟨b, off, spot⟩ := a
      have hspot : spot = none := by
        have h1 := (hV 0 (by omega)).1
        simpa [Addr.add] using World.cell?_spot h1
      subst hspot
      have e : ((List.range len).map B).getD i 0 = B i := by simp [List.getD_eq_getElem?_getD, hi]
      rw [Go.WideShapes.add_plain] at h0
      rw [e]
      exact ⟨b, off, rfl, h0, (hB i (by omega)).2⟩
    have hlen : ((List.range len).map B).length = len := by simp
    refine ⟨some a, cap, (List.range len).map B, by rw [hlen], hin, ?_⟩
    · simp only [Prod.mk.injEq] at hx
      rw [hx.1, hlen]
      have := bulk_len ((List.range len).map D)
      simp only [List.length_map, List.length_range] at this
      simp only [Rows.uptoBulk]
      omega


end Go.Proofs.YtebjclmbacmilaaGreatDoor
