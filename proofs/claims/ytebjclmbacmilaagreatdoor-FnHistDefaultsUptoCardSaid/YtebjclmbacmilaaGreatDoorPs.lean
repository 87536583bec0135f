/- The schema of the factor 2 is 0. No conditions. -/
import Derived.Test.YtebjclmbacmilaaGreatDoorxNd
namespace Go.Proofs.YtebjclmbacmilaaGreatDoor
open Go.RowKit

theorem frexp_two : FrexpIs 4611686018427387904 4602678819172646912 2 := by
  refine ⟨by omega, by omega, fun w => ?_⟩
  have h1 : (FloatKind.f64.format.order 4611686018427387904 0 == some .eq) = false := by decide +kernel
  have h2 : (FloatKind.f64.format.order (bits .andNot .u64 4611686018427387904 9223372036854775808).toNat 9218868437227405311 == some .gt) = false := by decide +kernel
  have h3 : (FloatKind.f64.format.order 4611686018427387904 4611686018427387904 != some .eq) = false := by decide +kernel
  have h4 : (FloatKind.f64.format.order (bits .andNot .u64 4611686018427387904 9223372036854775808).toNat 4503599627370496 == some .lt) = false := by decide +kernel
  have h5 : bits .and .u64 1024 2047 = 1024 := by decide +kernel
  have h6 : bits .andNot .u64 4611686018427387904 9218868437227405312 = 0 := by decide +kernel
  have h7 : bits .or .u64 0 4602678819172646912 = 4602678819172646912 := by decide +kernel
  go_enter Tryz.func195, Tryz.ntmps195
  go_wp2
  go_ret2
  exact ⟨rfl, rfl⟩
theorem frexp_one : FrexpIs 4607182418800017408 4602678819172646912 1 := by
  refine ⟨by omega, by omega, fun w => ?_⟩
  have h1 : (FloatKind.f64.format.order 4607182418800017408 0 == some .eq) = false := by decide +kernel
  have h2 : (FloatKind.f64.format.order (bits .andNot .u64 4607182418800017408 9223372036854775808).toNat 9218868437227405311 == some .gt) = false := by decide +kernel
  have h3 : (FloatKind.f64.format.order 4607182418800017408 4607182418800017408 != some .eq) = false := by decide +kernel
  have h4 : (FloatKind.f64.format.order (bits .andNot .u64 4607182418800017408 9223372036854775808).toNat 4503599627370496 == some .lt) = false := by decide +kernel
  have h5 : bits .and .u64 1023 2047 = 1023 := by decide +kernel
  have h6 : bits .andNot .u64 4607182418800017408 9218868437227405312 = 0 := by decide +kernel
  have h7 : bits .or .u64 0 4602678819172646912 = 4602678819172646912 := by decide +kernel
  go_enter Tryz.func195, Tryz.ntmps195
  go_wp2
  go_ret2
  exact ⟨rfl, rfl⟩
set_option maxRecDepth 100000 in
theorem log2_two' (w : World) : Calls Tryz.prog 145 #[.float .f64 4611686018427387904] w fun e w' => e = .returned (.float .f64 4607182418800017408) ∧ w' = w := by
  have h1 : (FloatKind.f64.format.order 4602678819172646912 4602678819172646912 == some .eq) = true := by decide +kernel
  go_enter Tryz.func145, Tryz.ntmps145
  go_wp2_with fail
  refine (frexp_is _ _ _ frexp_two _).mono ?_
  rintro e w' ⟨rfl, hw⟩
  rw [hw]
  clear hw w'
  go_wp2_with fail
  go_ret
  exact ⟨rfl, rfl⟩
set_option maxRecDepth 100000 in
theorem log2_two (w : World) : Calls Tryz.prog 127 #[.float .f64 4611686018427387904] w fun e w' => e = .returned (.float .f64 4607182418800017408) ∧ w' = w := by
  go_enter Tryz.func127, Tryz.ntmps127
  go_wp2_with fail
  refine (log2_two' w).mono ?_
  rintro e w' ⟨rfl, hw⟩
  rw [hw]
  clear hw w'
  go_wp2_with fail
  go_ret
  exact ⟨rfl, rfl⟩
set_option maxRecDepth 100000 in
theorem log2_one' (w : World) : Calls Tryz.prog 145 #[.float .f64 4607182418800017408] w fun e w' => e = .returned (.float .f64 0) ∧ w' = w := by
  have h1 : (FloatKind.f64.format.order 4602678819172646912 4602678819172646912 == some .eq) = true := by decide +kernel
  go_enter Tryz.func145, Tryz.ntmps145
  go_wp2_with fail
  refine (frexp_is _ _ _ frexp_one _).mono ?_
  rintro e w' ⟨rfl, hw⟩
  rw [hw]
  clear hw w'
  go_wp2_with fail
  go_ret
  exact ⟨rfl, rfl⟩
set_option maxRecDepth 100000 in
theorem log2_one (w : World) : Calls Tryz.prog 127 #[.float .f64 4607182418800017408] w fun e w' => e = .returned (.float .f64 0) ∧ w' = w := by
  go_enter Tryz.func127, Tryz.ntmps127
  go_wp2_with fail
  refine (log2_one' w).mono ?_
  rintro e w' ⟨rfl, hw⟩
  rw [hw]
  clear hw w'
  go_wp2_with fail
  go_ret
  exact ⟨rfl, rfl⟩
theorem archFloor_zero (w : World) : (callFunc 142 #[.float .f64 0]).run Tryz.prog w = .ok (.value (.float .f64 0)) w := by
  rw [run_callFunc_extern Tryz.func142 (by kernel_rfl) (by kernel_rfl) (by kernel_rfl) (show Extern.find Tryz.f142 = some (Extern.MathFloor.toIntegral "math.archFloor" .down) by kernel_rfl)]
  kernel_rfl
set_option maxRecDepth 100000 in
theorem floor_zero (w : World) : Calls Tryz.prog 126 #[.float .f64 0] w fun e w' => e = .returned (.float .f64 0) ∧ w' = w := by
  have h := archFloor_zero w
  go_enter Tryz.func126, Tryz.ntmps126
  go_wp2_with fail
  go_ret
  exact ⟨rfl, rfl⟩
set_option maxRecDepth 100000 in
theorem pickSchema_two (w : World) : Calls Tryz.prog 104 #[.float .f64 4611686018427387904] w fun e w' => e = .returned (.int .i32 0) ∧ w' = w := by
  have h1 : (FloatKind.f64.format.order 4611686018427387904 4607182418800017408 == some .lt || FloatKind.f64.format.order 4611686018427387904 4607182418800017408 == some .eq) = false := by decide +kernel
  have h2 : (FloatKind.f64.format.order 0 13844065254536904704 == some .lt || FloatKind.f64.format.order 0 13844065254536904704 == some .eq) = false := by decide +kernel
  have h3 : (FloatKind.f64.format.order 0 4616189618054758400 == some .gt || FloatKind.f64.format.order 0 4616189618054758400 == some .eq) = false := by decide +kernel
  have hcv : (convert 25 21 (.float .f64 0)).run Tryz.prog w = .ok (.int .i32 0) w := by kernel_rfl
  go_enter Tryz.func104, Tryz.ntmps104
  go_wp2_with fail
  refine (log2_two w).mono ?_
  rintro e w' ⟨rfl, hw⟩
  rw [hw]
  clear hw w'
  go_wp2_with fail
  refine (log2_one w).mono ?_
  rintro e w' ⟨rfl, hw⟩
  rw [hw]
  clear hw w'
  go_wp2_with fail
  refine (floor_zero w).mono ?_
  rintro e w' ⟨rfl, hw⟩
  rw [hw]
  clear hw w'
  go_wp2_with fail
  go_ret
  exact ⟨rfl, rfl⟩
end Go.Proofs.YtebjclmbacmilaaGreatDoor
