/- The card of 'laws.FnExponential'. -/
import Derived.Test.YtebjclmbacmilaaGreatDoorCards
import Derived.Test.YtebjclmbacmilaaGreatDoorTie
import Derived.Test.YtebjclmbacmilaaGreatDoorCd
import Derived.Test.YtebjclmbacmilaaGreatDoorLe
import Derived.Test.YtebjclmbacmilaaGreatDoorNi
import Derived.SevenTiedAt
namespace Go.Proofs.YtebjclmbacmilaaGreatDoor.fnExponential
open Go.ChangeShapes Go.WideShapes Go.ChangeAt Go.RowKit

set_option maxRecDepth 100000 in
theorem lifted (os : Os) (started : os.Started) (H : Type) (enc : TypeId × Value → H) :
    ReturnsInHanded {} Tryz.checked os 12 .any (fun w args => (Rows.fnExponentialSpec.pre enc Tryz.prog Tryz.f12 [] false w args ∧ laidMetH Tryz.prog seatLaid w) ∧ sizedMet enc Tryz.prog Tryz.f12 (OpenSpec.ofChange Rows.fnExponentialSpec) false w args)
      (Rows.fnExponentialSpec.post enc Tryz.prog Tryz.f12 false true false false) := by
  refine returnsInHanded_of_change_and (C := Tryz.checked) (X := fun w _ => laidMetH Tryz.prog seatLaid w) (fun _ _ _ hh h => h.of_heap hh) own started (by kernel_rfl) Tryz.func12
    (ChangeSpec.witness_shaped (enc := enc) (C := Tryz.checked) (os := os) (X := fun w _ => laidMetH Tryz.prog seatLaid w) false (World.laidAll Tryz.prog os seatLaid) #[.float .f64 0, .float .f64 0, .int .i64 0] 8 (World.laidAll_os _ _ _)
      (World.shaped_of_ZipB (by kernel_rfl) (by kernel_rfl)) (by kernel_rfl) (by kernel_rfl) (by kernel_rfl)
      (seat_metH os _)) ?_
  intro W base args ds gs before hval0 hW _ _ hL _
  have hval : ∀ (j : Nat) t v, Tryz.f12.params[j]? = some t → args[j]? = some v → Value.okWide Tryz.prog W .any base t v := hval0
  have hW' := hW
  obtain ⟨p, q, hA0, hV, rfl, _, _⟩ := hW
  have hA : DataW.TrodAll enc Tryz.prog W 0 (fun _ => true) true Tryz.f12.params.toList args.toList ds p := hA0
  rw [Tryz.params12] at hA hval
  obtain ⟨v0, v1, v2, d0, d1, d2, p0, p1, p2, rfl, rfl, rfl, h0, h1, h2⟩ := trodAll_three hA
  obtain ⟨rfl, rfl⟩ := trodVars_none hV
  obtain ⟨x, rfl, rfl, rfl, wx⟩ := open_float Tryz.underlying25 (hval 0 25 v0 rfl rfl) h0
  obtain ⟨y, rfl, rfl, rfl, wy⟩ := open_float Tryz.underlying25 (hval 1 25 v1 rfl rfl) h1
  obtain ⟨z, rfl, rfl, rfl, wz⟩ := open_int Tryz.underlying3 (hval 2 3 v2 rfl rfl) h2
  simp only [List.append_nil] at hW'
  obtain ⟨sp, sc, hg, hgs⟩ := sep_cells hL
  refine (fnExp_any x y z sp sc W hg hgs).mono fun e W' ⟨he, ho⟩ => ?_
  subst he
  exact ⟨_, rfl, _, _, _, [], [], [], hW', trodAll_mk1 (shut_bool Tryz.underlying4 _), trodAll_mk3 (shut_float Tryz.underlying25 wx) (shut_float Tryz.underlying25 wy) (shut_int Tryz.underlying3 wz), rfl, (below_of_only ho).frame _, fun h => by cases h⟩

theorem and_mk {a b : Bool} (ha : a = true) (hb : b = true) : (a && b) = true := by rw [ha, hb]; rfl
set_option maxHeartbeats 4000000 in
set_option maxRecDepth 100000 in
theorem closed : joinedFacts Tryz.prog 12 Tryz.f12 Rows.fnExponentialSpec Rows.fnExponentialRow = true := by
  unfold joinedFacts
  repeat' with_reducible refine and_mk ?_ ?_
  all_goals (as_aux_lemma => kernel_rfl)
theorem name12 : Tryz.prog.funcNamed "pub-dialplate/laws.FnExponential" = some 12 := by kernel_rfl

theorem said : Rows.FnExponentialSaid :=
  OpenClaim.holds_of_wide 12 Tryz.f12 rfl rfl rfl rfl rfl rfl rfl ⟨rfl, rfl, rfl, rfl, rfl⟩ rfl rfl rfl rfl rfl name12 Tryz.func12 closed
    (by as_aux_lemma => exact of_decide_eq_true (by kernel_rfl)) (by as_aux_lemma => (unfold Func.isWrapper; first | (rw [if_pos (by decide +kernel)]; kernel_rfl) | (rw [if_neg (by decide +kernel)]; exact ⟨rfl, rfl⟩)))
    (fun os started H enc _ => lifted os started H enc)

theorem plain (f : FuncId) (fn : Func) (hf : Tryz.pinned.checked.prog.funcNamed "pub-dialplate/laws.FnExponential" = some f) (hfn : Tryz.pinned.checked.prog.funcs[f]? = some fn) :
    true = Tryz.pinned.checked.prog.looks [] ∧ ∀ (j : Nat) t, fn.params[j]? = some t → Tryz.pinned.checked.prog.wantsStandIn t = false := by
  obtain rfl : f = 12 := Option.some.inj ((show Tryz.prog.funcNamed "pub-dialplate/laws.FnExponential" = some 12 from name12).symm.trans hf) |>.symm
  obtain rfl : fn = Tryz.f12 := (Option.some.inj (Tryz.func12.symm.trans hfn)).symm
  refine ⟨by kernel_rfl, fun j t ht => ?_⟩
  rw [Tryz.params12] at ht
  have hm : t ∈ [25, 25, 3] := by simpa using Array.mem_of_getElem? ht
  have hall : ([25, 25, 3].all fun u => !Tryz.prog.wantsStandIn u) = true := by kernel_rfl
  exact (show Tryz.prog.wantsStandIn t = false by simpa using List.all_eq_true.1 hall t hm)

/-- ████ THE CARD ████ -/
theorem card : Rows.FnExponentialCardSaid :=
  Claim7.holds_tied_plain_at .later [] _ _ _ _ said (fun _ h => by cases h) (by kernel_rfl) (fun _ h => by cases h) fnExponential_row_tie rfl ⟨rfl, rfl⟩ (by kernel_rfl) rfl plain (by kernel_rfl)
#print axioms card
end Go.Proofs.YtebjclmbacmilaaGreatDoor.fnExponential
