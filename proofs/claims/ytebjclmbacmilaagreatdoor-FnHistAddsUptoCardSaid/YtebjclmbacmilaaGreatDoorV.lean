/- Checks and sorts at the names NewDesc walks: valid names, empty sorts, label length -/
import Derived.Test.YtebjclmbacmilaaGreatDoorQ
namespace Go.Proofs.YtebjclmbacmilaaGreatDoor
open Go.RowKit

set_option maxRecDepth 100000 in
set_option maxHeartbeats 800000 in
theorem validString_h (w : World) :
    Calls Tryz.prog 129 #[.string ⟨#[104]⟩] w fun e w' => e = .returned (.bool true) ∧ w' = w := by
  have hb : ((({ data := #[104] } : ByteArray)[0]'(by decide)).toNat : Int) < 128 := by decide
  go_enter Tryz.func129, Tryz.ntmps129
  go_wp2_with fail
  refine wp_loop_rounds 2 ?_
  rw [rounds_succ]
  go_wp2_with fail
  rw [rounds_succ]
  go_wp2_with fail
  go_ret
  exact ⟨rfl, rfl⟩

theorem isValidMetricName_h (w : World) : Calls Tryz.prog 112 #[.string ⟨#[104]⟩] w fun e w' => e = .returned (.bool true) ∧ w' = w := by
  go_enter Tryz.func112, Tryz.ntmps112
  go_wp2_with (go_at_call 129; refine (validString_h _).mono ?_; rintro e w' ⟨rfl, rfl⟩)
  go_ret
  exact ⟨rfl, rfl⟩
set_option maxRecDepth 100000 in
theorem validateLabelValues_h (b cap : Nat) (w : World) (h : w.cell? ⟨b, 0, none⟩ = some (.string ⟨#[104]⟩)) :
    Calls Tryz.prog 115 #[.slice (some ⟨b, 0, none⟩) 1 cap, .int .i64 1] w fun e w' => e = .returned .nilIface ∧ w' = w := by
  go_enter Tryz.func115, Tryz.ntmps115
  go_wp2_with fail
  refine wp_loop_rounds 2 ?_
  rw [rounds_succ]
  go_wp2_with (go_at_call 129; refine (validString_h _).mono ?_; rintro e w' ⟨rfl, rfl⟩)
  rw [rounds_succ]
  go_wp2_with fail
  go_ret
  exact ⟨rfl, rfl⟩

set_option maxRecDepth 100000 in
theorem insStrings_empty (b cap : Nat) (w : World) :
    Calls Tryz.prog 177 #[.slice (some ⟨b, 0, none⟩) 0 cap, .int .i64 0, .int .i64 0] w fun e w' => e = .returned (.tuple #[]) ∧ w' = w := by
  go_enter Tryz.func177, Tryz.ntmps177
  go_wp2_with fail
  refine wp_loop_rounds 1 ?_
  rw [rounds_succ]
  go_wp2_with fail
  first | go_end0 | refine bodyPost_ret (results_none rfl _ _ _) rfl ?_
  exact ⟨rfl, rfl⟩

set_option maxRecDepth 100000 in
theorem pdqStrings_empty (b cap : Nat) (w : World) :
    Calls Tryz.prog 149 #[.slice (some ⟨b, 0, none⟩) 0 cap, .int .i64 0, .int .i64 0, .int .i64 0] w fun e w' => e = .returned (.tuple #[]) ∧ w' = w := by
  go_enter Tryz.func149, Tryz.ntmps149
  go_wp2_with fail
  refine wp_loop_rounds 1 ?_
  rw [rounds_succ]
  go_wp2_with (go_at_call 177; refine (insStrings_empty _ _ _).mono ?_; rintro e w' ⟨rfl, rfl⟩)
  first | go_end0 | refine bodyPost_ret (results_none rfl _ _ _) rfl ?_
  exact ⟨rfl, rfl⟩

set_option maxRecDepth 100000 in
theorem sortStrings_empty (b cap : Nat) (w : World) :
    Calls Tryz.prog 114 #[.slice (some ⟨b, 0, none⟩) 0 cap] w fun e w' => e = .returned (.tuple #[]) ∧ w' = w := by
  have h132 : Calls Tryz.prog 132 #[.slice (some ⟨b, 0, none⟩) 0 cap] w fun e w' => e = .returned (.tuple #[]) ∧ w' = w := by
    go_enter Tryz.func132, Tryz.ntmps132
    go_wp2_with (first
      | (go_at_call 133; refine (Tryz.bits_Len _ _ (by omega) (by omega)).mono ?_; rintro e w' ⟨rfl, rfl⟩)
      | (go_at_call 149; refine (pdqStrings_empty _ _ _).mono ?_; rintro e w' ⟨rfl, rfl⟩))
    first | go_end0 | refine bodyPost_ret (results_none rfl _ _ _) rfl ?_
    exact ⟨rfl, rfl⟩
  have H := Lib.hid h132
  clear h132
  go_enter Tryz.func114, Tryz.ntmps114
  go_wp2_with (go_at_call 132; refine H.out.mono ?_; rintro e w' ⟨rfl, rfl⟩)
  go_end0
  exact ⟨rfl, rfl⟩

set_option maxRecDepth 100000 in
theorem labelLen_any (b n cap : Nat) (w : World) :
    Calls Tryz.prog 338 #[.slice (some ⟨b, 0, none⟩) n cap] w fun e w' => e = .returned (.int .i64 n) ∧ w' = w := by
  go_enter Tryz.func338, Tryz.ntmps338
  go_wp2
  go_ret
  exact ⟨rfl, rfl⟩

theorem method_labelLen (b cap : Nat) (w : World) : (method 591 271 (.slice (some ⟨b, 0, none⟩) 0 cap) "Len").run Tryz.prog w = .ok (338, .slice (some ⟨b, 0, none⟩) 0 cap) w := by kernel_rfl

set_option maxRecDepth 100000 in
theorem sortSort_empty (b cap : Nat) (w : World) :
    Calls Tryz.prog 117 #[.iface 271 (.slice (some ⟨b, 0, none⟩) 0 cap)] w fun e w' => e = .returned (.tuple #[]) ∧ w' = w := by
  have hm := method_labelLen b cap w
  go_enter Tryz.func117, Tryz.ntmps117
  go_wp2_with (go_at_call 338; refine (labelLen_any _ _ _ _).mono ?_; rintro e w' ⟨rfl, rfl⟩)
  first | go_end0 | refine bodyPost_ret (results_none rfl _ _ _) rfl ?_
  exact ⟨rfl, rfl⟩
end Go.Proofs.YtebjclmbacmilaaGreatDoor
