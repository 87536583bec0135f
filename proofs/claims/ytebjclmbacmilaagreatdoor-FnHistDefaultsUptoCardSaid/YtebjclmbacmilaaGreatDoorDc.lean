/- The card of 'laws.FnHistDefaults', second form. -/
import Derived.Test.YtebjclmbacmilaaGreatDoorCards
import Derived.Test.YtebjclmbacmilaaGreatDoorTie
import Derived.Test.YtebjclmbacmilaaGreatDoorxCv
import Derived.Test.YtebjclmbacmilaaGreatDoorxDw
import Derived.SevenTiedAt
import Derived.Carry
import Derived.JoinedCond
namespace Go.Proofs.YtebjclmbacmilaaGreatDoor.fnHistDefaults
open Go.ChangeShapes Go.WideShapes Go.ChangeAt Go.RowKit

set_option maxRecDepth 100000 in
theorem contract (H : Type) (enc : TypeId × Value → H) (W : World) (base : Nat) (args : Array Value) (ds gs : List (DataW H)) (before : List MemPlace)
    (hval : ∀ (j : Nat) t v, Tryz.f6.params[j]? = some t → args[j]? = some v → Value.okWide Tryz.prog W .any base t v)
    (hW : DataW.Whole enc Tryz.prog Tryz.f6.params.toList Rows.fnHistDefaultsSpec.vars false W args.toList ds gs before) (hk : Rows.uptoSmall H (ds ++ gs) = true) (hL : laidMetH Tryz.prog seatLaid W) :
    Calls Tryz.prog 6 args W fun e W' => ∃ v, e = .returned v ∧ Rows.fnHistDefaultsSpec.post enc Tryz.prog Tryz.f6 false true false false W args v W' := by
  have hW' := hW
  obtain ⟨p, q, hA0, hV, rfl, _, _⟩ := hW
  have hA : DataW.TrodAll enc Tryz.prog W 0 (fun _ => true) true Tryz.f6.params.toList args.toList ds p := hA0
  rw [Tryz.params6] at hA hval
  obtain ⟨v0, d0, rfl, rfl, h0⟩ := trodAll_one hA
  obtain ⟨rfl, rfl⟩ := trodVars_none hV
  simp only [List.append_nil] at hW' hk
  have hlt : ∀ x ∈ p, x.block < W.heap.size := fun x hx => by simpa using hW'.lt x hx
  obtain ⟨ba, bc, bs, rfl, hin, _, hbl, hwf⟩ := open_floats64 (hval 0 22 v0 rfl rfl) h0
  have hlen : bs.length ≤ 1048577 := by
    have h : Rows.uptoBulkAll [d0] ≤ 1048576 := of_decide_eq_true hk
    simp only [Rows.uptoBulkAll] at h
    omega
  obtain ⟨sp, sc, hg, hgs⟩ := sep_cells hL
  refine (fnDefaults_any ba bc bs sp sc W hg hgs hin hlen hwf).mono fun e W' ⟨he, ho⟩ => ?_
  subst he
  exact ⟨_, rfl, _, _, _, [], p, [], hW', trodAll_mk1 (shut_bool Tryz.underlying4 _), trodAll_mk1 (Below.trod laidOut (by kernel_rfl) (of_decide_eq_true (by kernel_rfl)) h0 (below_of_only ho) hlt), rfl, (below_of_only ho).frame _, fun h => by cases h⟩

theorem reads (os : Os) {H : Type} (enc : TypeId × Value → H) : ∃ places, DataW.whole enc Tryz.prog ((World.laidAll Tryz.prog os seatLaid).forCall (fun _ _ => 0) ⟨#[], #[.slice none 0 0], []⟩).memory Tryz.f6.params.toList Rows.fnHistDefaultsSpec.vars false #[Value.slice none 0 0].toList 6 = some ([.nil], [], places) :=
  ⟨[], by kernel_rfl⟩

set_option maxRecDepth 100000 in
theorem lifted (os : Os) (started : os.Started) (H : Type) (enc : TypeId × Value → H) (F : Stop.Interp) :
    ReturnsInHanded {} Tryz.checked os 6 .any ((Rows.OpenSpec.upto Rows.fnHistDefaultsSpec).preRow enc Tryz.prog Tryz.f6 Rows.fnHistDefaultsUptoRow.domain false Rows.fnHistDefaultsUptoRow.laid) (((Rows.OpenSpec.upto Rows.fnHistDefaultsSpec).at F).post enc Tryz.prog Tryz.f6 false true false false) := by
  obtain ⟨places, hx⟩ := reads os enc
  refine returnsInHanded_of_row (C := Tryz.checked) (s := Rows.OpenSpec.upto Rows.fnHistDefaultsSpec) own started (by kernel_rfl) Tryz.func6
    (witness_laid (enc := enc) (World.laidAll Tryz.prog os seatLaid) #[.slice none 0 0] (World.laidAll_os _ _ _) (World.shaped_of_ZipB (by kernel_rfl) (by kernel_rfl)) (by kernel_rfl)
      (OpenSpec.preRow_of_cond 6 hx (by kernel_rfl) (fun k hk => by cases hk; kernel_rfl) (by kernel_rfl) (seat_metH os _))) ?_
  intro W base args ds gs before hval hW _ hcond _ hL _ _
  exact contract H enc W base args ds gs before hval hW (hcond _ rfl) hL

set_option maxHeartbeats 4000000 in
set_option maxRecDepth 100000 in
theorem closed : joinedFacts Tryz.prog 6 Tryz.f6 (Rows.OpenSpec.upto Rows.fnHistDefaultsSpec).bare Rows.fnHistDefaultsUptoRow = true := by
  unfold joinedFacts
  repeat' with_reducible refine and_both ?_ ?_
  all_goals (as_aux_lemma => kernel_rfl)
theorem name6 : Tryz.prog.funcNamed "pub-dialplate/laws.FnHistDefaults" = some 6 := by kernel_rfl

theorem said : Rows.FnHistDefaultsUptoSaid :=
  OpenClaim.holds_of_cond 6 Tryz.f6 rfl rfl rfl rfl rfl rfl rfl ⟨rfl, rfl, rfl, rfl, rfl⟩ rfl rfl rfl rfl rfl name6 Tryz.func6 closed
    (by as_aux_lemma => exact of_decide_eq_true (by kernel_rfl)) (by as_aux_lemma => (unfold Func.isWrapper; first | (rw [if_pos (by decide +kernel)]; kernel_rfl) | (rw [if_neg (by decide +kernel)]; exact ⟨rfl, rfl⟩)))
    (fun os started H enc _ F => by rw [OpenClaim.pre_eq_preRow]; exact lifted os started H enc F)

theorem plain (f : FuncId) (fn : Func) (hf : Tryz.pinned.checked.prog.funcNamed "pub-dialplate/laws.FnHistDefaults" = some f) (hfn : Tryz.pinned.checked.prog.funcs[f]? = some fn) :
    true = Tryz.pinned.checked.prog.looks [] ∧ ∀ (j : Nat) t, fn.params[j]? = some t → Tryz.pinned.checked.prog.wantsStandIn t = false := by
  obtain rfl : f = 6 := Option.some.inj ((show Tryz.prog.funcNamed "pub-dialplate/laws.FnHistDefaults" = some 6 from name6).symm.trans hf) |>.symm
  obtain rfl : fn = Tryz.f6 := (Option.some.inj (Tryz.func6.symm.trans hfn)).symm
  refine ⟨by kernel_rfl, fun j t ht => ?_⟩
  rw [Tryz.params6] at ht
  have hm : t ∈ [22] := by simpa using Array.mem_of_getElem? ht
  have hall : ([22].all fun u => !Tryz.prog.wantsStandIn u) = true := by kernel_rfl
  exact (show Tryz.prog.wantsStandIn t = false by simpa using List.all_eq_true.1 hall t hm)

/-- ████ THE CARD ████ -/
theorem card : Rows.FnHistDefaultsUptoCardSaid :=
  Claim7.holds_tied_plain_at .later [] _ _ _ _ said (fun _ h => by cases h) (by kernel_rfl) (fun _ h => by cases h) fnHistDefaultsUpto_row_tie rfl ⟨rfl, rfl⟩ (by kernel_rfl) rfl plain (by kernel_rfl)
#print axioms card
end Go.Proofs.YtebjclmbacmilaaGreatDoor.fnHistDefaults
