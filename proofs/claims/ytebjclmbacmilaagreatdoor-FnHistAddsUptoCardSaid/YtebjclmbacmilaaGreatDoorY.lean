/- Small contracts of NewHistogram: IsInf, DefBuckets, errors.New, selfCollector.init, MakeLabelPairs. No conditions but those stated. -/
import Derived.Test.YtebjclmbacmilaaGreatDoorX
import Derived.BigQuiet
namespace Go.Proofs.YtebjclmbacmilaaGreatDoor
open Go.RowKit

theorem isInf_any (v : Nat) (w : World) : Calls Tryz.prog 107 #[.float .f64 v, .int .i64 1] w fun e w' => e = .returned (.bool (fgt v 9218868437227405311)) ∧ w' = w := by
  go_enter Tryz.func107, Tryz.ntmps107
  go_wp2_with fail
  go_ret
  exact ⟨rfl, rfl⟩

theorem defBuckets_any (w : World) : Calls Tryz.prog 103 #[] w fun e w' => e = .returned (.slice (some ⟨w.heap.size, 0, none⟩) 11 11) ∧ w' = w.alloc (.cells (f64s [4572414629676717179, 4576918229304087675, 4582862980812216730, 4587366580439587226, 4591870180066957722, 4598175219545276416, 4602678819172646912, 4607182418800017408, 4612811918334230528, 4617315517961601024, 4621819117588971520]).toArray 25) := by
  go_enter Tryz.func103, Tryz.ntmps103
  go_wp2_with fail
  go_ret
  exact ⟨rfl, rfl⟩

theorem errNew_any (s : ByteArray) (w : World) : Calls Tryz.prog 106 #[.string s] w fun e w' => e = .returned (.iface 282 (.pointer (some ⟨w.heap.size, 0, none⟩))) ∧ w' = w.alloc (.cells #[.string s] 284) := by
  go_enter Tryz.func106, Tryz.ntmps106
  go_wp2_with fail
  go_ret
  exact ⟨rfl, rfl⟩

theorem selfInit_any (h : Nat) (i : Nat) (cs : List Value) (t : TypeId) (q : Option Addr) (x : Value) (w : World) (hh : IsBlock w h cs) (hi : cs[i]? = some x) :
    Calls Tryz.prog 111 #[.pointer (some ⟨h, i, none⟩), .iface t (.pointer q)] w fun e w' => e = .returned (.tuple #[]) ∧ w' = w.setCell ⟨h, i, none⟩ (.iface t (.pointer q)) := by
  have c := hh.cell hi
  have f := hh.free i
  clear hh hi
  go_enter Tryz.func111, Tryz.ntmps111
  go_wp2_with fail
  first | go_end0 | refine bodyPost_ret (results_none rfl _ _ _) rfl ?_
  exact ⟨rfl, rfl⟩

theorem makeLabelPairs_none (d nb pb : Nat) (cs : List Value) (w : World) (h3 : cs[3]? = some (.slice (some ⟨pb, 0, none⟩) 0 0)) (h4 : cs[4]? = some (.pointer (some ⟨nb, 0, none⟩))) (hd : IsBlock w d cs) (hn : IsBlock w nb [.slice none 0 0, .map none]) :
    Calls Tryz.prog 102 #[.pointer (some ⟨d, 0, none⟩), .slice none 0 0] w fun e w' => e = .returned (.slice none 0 0) ∧ ∃ k, w' = w.drewN k := by
  have c3 := hd.cell h3
  have c4 := hd.cell h4
  have n0 := hn.cell (i := 0) rfl
  clear hd hn h3 h4
  go_enter Tryz.func102, Tryz.ntmps102
  go_wp2_with fail
  go_quiet (fail)
  go_wp2_with fail
  go_ret
  exact ⟨rfl, _, rfl⟩
end Go.Proofs.YtebjclmbacmilaaGreatDoor
