/- What a card of this seat wants beside its walk: a world in which the listed variables read as the text lays them, and the cells of the separator variable out of that. No conditions. -/
import Derived.Test.YtebjclmbacmilaaGreatDoorC
import Derived.Test.YtebjclmbacmilaaGreatDoorRows
import Derived.WalkKit
import Derived.ProofKit
import Derived.OpenShut
import Derived.Deep.DeepHandedRow
import Derived.Lib.LaidU8
import Derived.Lay
import Derived.MakeChecks
import Derived.Laws.Cover2
namespace Go.Proofs.YtebjclmbacmilaaGreatDoor
open Go.ChangeShapes Go.WideShapes Go.ChangeAt Go.RowKit

def seatLaid : List (String × DataW Unit) := [("unicode/utf8.acceptRanges", Rows.laid_unicode_utf8_acceptRanges), ("pub-dialplate/pub/clientgolang/prometheus.errBucketLabelNotAllowed", Rows.laid_pub_dialplate_pub_clientgolang_prometheus_errBucketLabelNotAllowed), ("pub-dialplate/pub/clientgolang/prometheus.errInconsistentCardinality", Rows.laid_pub_dialplate_pub_clientgolang_prometheus_errInconsistentCardinality), ("pub-dialplate/pub/clientgolang/prometheus.separatorByteSlice", Rows.laid_pub_dialplate_pub_clientgolang_prometheus_separatorByteSlice), ("pub-dialplate/pub/clientgolang/prometheus.V2", Rows.laid_pub_dialplate_pub_clientgolang_prometheus_V2), ("unicode/utf8.first", Rows.laid_unicode_utf8_first)]
theorem own : ownKnob Tryz.prog.godebug = none := by kernel_rfl
theorem seat_met (os : Os) (args : Array Value) : laidMet Tryz.prog seatLaid ((World.laidAll Tryz.prog os seatLaid).forCall (fun _ _ => 0) ⟨#[], args, []⟩).memory :=
  laidMet_laidAll args (by kernel_rfl) (by kernel_rfl)
theorem seat_metH (os : Os) (args : Array Value) : laidMetH Tryz.prog seatLaid ((World.laidAll Tryz.prog os seatLaid).forCall (fun _ _ => 0) ⟨#[], args, []⟩).memory := by
  rw [MakeChecks.laidMetH_plain _ _ _ (by kernel_rfl)]; exact seat_met os args

theorem sep_name : Tryz.prog.globalNamed "pub-dialplate/pub/clientgolang/prometheus.separatorByteSlice" = some 2 := by kernel_rfl
theorem sep_type : (Tryz.prog.globals[2]?).map (·.type) = some 265 := by kernel_rfl
theorem cells5 : Tryz.prog.cellsOf 5 = 1 := by kernel_rfl

/-- What the rows' list says of the separator variable. -/
theorem sep_cells {W : World} (hL : laidMetH Tryz.prog seatLaid W) : ∃ (gs : Addr) (gc : Nat), W.cell? ⟨2, 0, none⟩ = some (.slice (some gs) 1 gc) ∧ W.cell? gs = some (.int .u8 255) := by
  rw [MakeChecks.laidMetH_plain _ _ _ (by kernel_rfl)] at hL
  have h := Lib.laidMet.reads hL (n := "pub-dialplate/pub/clientgolang/prometheus.separatorByteSlice") (d := .slice [.lit (.int .u8 255)] []) (.tail _ (.tail _ (.tail _ (.head _))))
  obtain ⟨g', t', cs, fuel, p, hg, hty, hvar, hd⟩ := h
  obtain rfl := Option.some.inj (sep_name.symm.trans hg)
  obtain rfl := Option.some.inj (sep_type.symm.trans hty)
  rcases open_ints Tryz.underlying265 Tryz.underlying5 cells5 hd with ⟨_, hx⟩ | ⟨a, len, cap, zs, hcs, _, _, _, hz, hx, hcell, _⟩
  · cases hx
  · simp only [if_true] at hz
    simp only [Prod.mk.injEq, DataW.slice.injEq] at hx
    obtain ⟨⟨h1, h2⟩, _⟩ := hx
    have hl1 : (zs.take len).length = 1 := by have := congrArg List.length h1; simpa [lits] using this.symm
    have hl2 : (zs.drop len).length = 0 := by have := congrArg List.length h2; simpa [lits] using this.symm
    rw [List.length_take] at hl1
    rw [List.length_drop] at hl2
    have hlen : len = 1 := by omega
    have hzl : zs.length = 1 := by omega
    obtain ⟨z, rfl⟩ := List.length_eq_one_iff.1 hzl
    subst hlen
    have hz255 : z = 255 := by
      simp [lits] at h1
      exact h1.symm
    refine ⟨a, cap, ?_, ?_⟩
    · rw [World.var?_cell hg hvar 0, ← Array.getElem?_toList, hcs]; rfl
    · have := hcell 0 (Nat.zero_lt_one)
      rw [hz255] at this
      simpa [Addr.add] using this
end Go.Proofs.YtebjclmbacmilaaGreatDoor
