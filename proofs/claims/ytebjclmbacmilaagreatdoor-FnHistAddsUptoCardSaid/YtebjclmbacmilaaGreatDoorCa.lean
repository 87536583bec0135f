/- The card of 'laws.FnHistAdds', second form. -/
import Derived.Test.YtebjclmbacmilaaGreatDoorCards
import Derived.Test.YtebjclmbacmilaaGreatDoorTie
import Derived.Test.YtebjclmbacmilaaGreatDoorCg
import Derived.Test.YtebjclmbacmilaaGreatDoorCb
import Derived.Test.YtebjclmbacmilaaGreatDoorAw
import Derived.SevenTiedAt
import Derived.Carry
import Derived.JoinedCond
namespace Go.Proofs.YtebjclmbacmilaaGreatDoor.fnHistAdds
open Go.ChangeShapes Go.WideShapes Go.ChangeAt Go.RowKit

set_option maxRecDepth 100000 in
theorem contract (H : Type) (enc : TypeId × Value → H) (W : World) (base : Nat) (args : Array Value) (ds gs : List (DataW H)) (before : List MemPlace)
    (hval : ∀ (j : Nat) t v, Tryz.f3.params[j]? = some t → args[j]? = some v → Value.okWide Tryz.prog W .any base t v)
    (hW : DataW.Whole enc Tryz.prog Tryz.f3.params.toList Rows.fnHistAddsSpec.vars false W args.toList ds gs before) (hk : Rows.uptoSmall H (ds ++ gs) = true) (hL : laidMetH Tryz.prog seatLaid W) :
    Calls Tryz.prog 3 args W fun e W' => ∃ v, e = .returned v ∧ Rows.fnHistAddsSpec.post enc Tryz.prog Tryz.f3 false true false false W args v W' := by
  have hW' := hW
  obtain ⟨p, q, hA0, hV, rfl, _, _⟩ := hW
  have hA : DataW.TrodAll enc Tryz.prog W 0 (fun _ => true) true Tryz.f3.params.toList args.toList ds p := hA0
  rw [Tryz.params3] at hA hval
  obtain ⟨v0, v1, v2, d0, d1, d2, p0, p1, p2, rfl, rfl, rfl, h0, h1, h2⟩ := trodAll_three hA
  obtain ⟨rfl, rfl⟩ := trodVars_none hV
  simp only [List.append_nil] at hW' hk
  rw [List.append_assoc] at hW'
  have hlt : ∀ x ∈ p0 ++ (p1 ++ p2), x.block < W.heap.size := fun x hx => by simpa using hW'.lt x hx
  have hlt0 : ∀ x ∈ p0, x.block < W.heap.size := fun x hx => hlt x (List.mem_append_left _ hx)
  have hlt1 : ∀ x ∈ p1, x.block < W.heap.size := fun x hx => hlt x (List.mem_append_right _ (List.mem_append_left _ hx))
  have hlt2 : ∀ x ∈ p2, x.block < W.heap.size := fun x hx => hlt x (List.mem_append_right _ (List.mem_append_right _ hx))
  obtain ⟨ba, bc, bs, rfl, hin, _, hbl⟩ := open_floats (hval 0 22 v0 rfl rfl) h0
  obtain ⟨xa, xc, xs, rfl, hix, hxl⟩ := open_ints23 (hval 1 23 v1 rfl rfl) h1
  obtain ⟨ya, yc, ys, rfl, hiy, hyl⟩ := open_ints23 (hval 2 23 v2 rfl rfl) h2
  have hbulk : Rows.uptoBulk d0 + (Rows.uptoBulk d1 + Rows.uptoBulk d2) ≤ 1048576 := by
    have h : Rows.uptoBulkAll [d0, d1, d2] ≤ 1048576 := of_decide_eq_true hk
    simp only [Rows.uptoBulkAll] at h
    omega
  obtain ⟨sp, sc, hg, hgs⟩ := sep_cells hL
  refine (fnAdds_any ba bc bs xa xc xs ya yc ys sp sc W hg hgs hin (by omega) hix (by omega) hiy (by omega)).mono fun e W' ⟨he, ho⟩ => ?_
  subst he
  have hb := below_of_only ho
  exact ⟨_, rfl, _, _, _, [], p0 ++ (p1 ++ p2), [], hW', trodAll_mk1 (shut_bool Tryz.underlying4 _), trodAll_mk3 (Below.trod laidOut (by kernel_rfl) (of_decide_eq_true (by kernel_rfl)) h0 hb hlt0) (Below.trod laidOut (by kernel_rfl) (of_decide_eq_true (by kernel_rfl)) h1 hb hlt1) (Below.trod laidOut (by kernel_rfl) (of_decide_eq_true (by kernel_rfl)) h2 hb hlt2), rfl, hb.frame _, fun h => by cases h⟩

theorem reads (os : Os) {H : Type} (enc : TypeId × Value → H) : ∃ places, DataW.whole enc Tryz.prog ((World.laidAll Tryz.prog os seatLaid).forCall (fun _ _ => 0) ⟨#[], #[.slice none 0 0, .slice none 0 0, .slice none 0 0], []⟩).memory Tryz.f3.params.toList Rows.fnHistAddsSpec.vars false #[Value.slice none 0 0, .slice none 0 0, .slice none 0 0].toList 8 = some ([.nil, .nil, .nil], [], places) :=
  ⟨[], by kernel_rfl⟩

set_option maxRecDepth 100000 in
theorem lifted (os : Os) (started : os.Started) (H : Type) (enc : TypeId × Value → H) (F : Stop.Interp) :
    ReturnsInHanded {} Tryz.checked os 3 .any ((Rows.OpenSpec.upto Rows.fnHistAddsSpec).preRow enc Tryz.prog Tryz.f3 Rows.fnHistAddsUptoRow.domain false Rows.fnHistAddsUptoRow.laid) (((Rows.OpenSpec.upto Rows.fnHistAddsSpec).at F).post enc Tryz.prog Tryz.f3 false true false false) := by
  obtain ⟨places, hx⟩ := reads os enc
  refine returnsInHanded_of_row (C := Tryz.checked) (s := Rows.OpenSpec.upto Rows.fnHistAddsSpec) own started (by kernel_rfl) Tryz.func3
    (witness_laid (enc := enc) (World.laidAll Tryz.prog os seatLaid) #[.slice none 0 0, .slice none 0 0, .slice none 0 0] (World.laidAll_os _ _ _) (World.shaped_of_ZipB (by kernel_rfl) (by kernel_rfl)) (by kernel_rfl)
      (OpenSpec.preRow_of_cond 8 hx (by kernel_rfl) (fun k hk => by cases hk; kernel_rfl) (by kernel_rfl) (seat_metH os _))) ?_
  intro W base args ds gs before hval hW _ hcond _ hL _ _
  exact contract H enc W base args ds gs before hval hW (hcond _ rfl) hL

set_option maxHeartbeats 4000000 in
set_option maxRecDepth 100000 in
theorem closed : joinedFacts Tryz.prog 3 Tryz.f3 (Rows.OpenSpec.upto Rows.fnHistAddsSpec).bare Rows.fnHistAddsUptoRow = true := by
  unfold joinedFacts
  repeat' with_reducible refine and_both ?_ ?_
  all_goals (as_aux_lemma => kernel_rfl)
theorem name3 : Tryz.prog.funcNamed "pub-dialplate/laws.FnHistAdds" = some 3 := by kernel_rfl

theorem said : Rows.FnHistAddsUptoSaid :=
  OpenClaim.holds_of_cond 3 Tryz.f3 rfl rfl rfl rfl rfl rfl rfl ⟨rfl, rfl, rfl, rfl, rfl⟩ rfl rfl rfl rfl rfl name3 Tryz.func3 closed
    (by as_aux_lemma => exact of_decide_eq_true (by kernel_rfl)) (by as_aux_lemma => (unfold Func.isWrapper; first | (rw [if_pos (by decide +kernel)]; kernel_rfl) | (rw [if_neg (by decide +kernel)]; exact ⟨rfl, rfl⟩)))
    (fun os started H enc _ F => by rw [OpenClaim.pre_eq_preRow]; exact lifted os started H enc F)

theorem plain (f : FuncId) (fn : Func) (hf : Tryz.pinned.checked.prog.funcNamed "pub-dialplate/laws.FnHistAdds" = some f) (hfn : Tryz.pinned.checked.prog.funcs[f]? = some fn) :
    true = Tryz.pinned.checked.prog.looks [] ∧ ∀ (j : Nat) t, fn.params[j]? = some t → Tryz.pinned.checked.prog.wantsStandIn t = false := by
  obtain rfl : f = 3 := Option.some.inj ((show Tryz.prog.funcNamed "pub-dialplate/laws.FnHistAdds" = some 3 from name3).symm.trans hf) |>.symm
  obtain rfl : fn = Tryz.f3 := (Option.some.inj (Tryz.func3.symm.trans hfn)).symm
  refine ⟨by kernel_rfl, fun j t ht => ?_⟩
  rw [Tryz.params3] at ht
  have hm : t ∈ [22, 23, 23] := by simpa using Array.mem_of_getElem? ht
  have hall : ([22, 23, 23].all fun u => !Tryz.prog.wantsStandIn u) = true := by kernel_rfl
  exact (show Tryz.prog.wantsStandIn t = false by simpa using List.all_eq_true.1 hall t hm)

/-- ████ THE CARD ████ -/
theorem card : Rows.FnHistAddsUptoCardSaid :=
  Claim7.holds_tied_plain_at .later [] _ _ _ _ said (fun _ h => by cases h) (by kernel_rfl) (fun _ h => by cases h) fnHistAddsUpto_row_tie rfl ⟨rfl, rfl⟩ (by kernel_rfl) rfl plain (by kernel_rfl)
#print axioms card
end Go.Proofs.YtebjclmbacmilaaGreatDoor.fnHistAdds
