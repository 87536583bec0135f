/- A region that draws its order, by an invariant: one proof for each operation, none for each order. A region that draws its order, by an invariant over the set of the operations that have run. -/
import Derived.Deep.RegionHeld3
namespace Go.Proofs.YtebjclmbacmilaaGreatDoor
section
variable {P : Program} {ops : Array Oper} {Q : Exit → Act → World → Prop} {md : Region.Mode}
theorem wpAny_inv (I : Nat → Array Bool → Act → World → Prop)
    (hstep : ∀ n listed a w i, I (n + 1) listed a w → i ∈ Region.ready md ops listed → wpOp P ops Q i (I n (listed.setIfInBounds i true)) a w)
    (hend : ∀ n listed a w, I n listed a w → Region.ready md ops listed = [] → Q .normal a w) (hzero : ∀ listed a w, I 0 listed a w → Region.ready md ops listed = []) :
    ∀ n listed a w, I n listed a w → wpAny P md ops Q n listed a w := by
  intro n
  induction n with
  | zero => intro listed a w h; exact ⟨hzero _ _ _ h, hend _ _ _ _ h (hzero _ _ _ h)⟩
  | succ n ih =>
    intro listed a w h
    exact ⟨hend _ _ _ _ h, fun i hi => wpOp_mono (fun a' w' h' => ih _ _ _ h') (hstep n listed a w i h hi)⟩
/-- What comes up: it is not listed; what it waits for is. -/
theorem ready_of {listed : Array Bool} {i : Nat} {o : Oper} (h : i ∈ Region.ready md ops listed) (ho : ops[i]? = some o) :
    listed.getD i true = false ∧ ∀ e ∈ o.after, Region.binds md e = true → listed.getD e.on false = true := by
  simp only [Region.ready, List.mem_filter, List.mem_range, Bool.and_eq_true, Bool.not_eq_true', ho, Option.map_some, Option.getD_some] at h
  obtain ⟨_, h2, h3⟩ := h
  refine ⟨h2, fun e he hb => ?_⟩
  have := Array.all_eq_true_iff_forall_mem.1 h3 e he
  simpa [hb] using this
/-- Nothing comes up: all is listed, if each operation waits for earlier ones alone. -/
theorem all_of_none {listed : Array Bool} (hw : ∀ (i : Nat) o, ops[i]? = some o → ∀ e ∈ o.after, e.on < i) (h : Region.ready md ops listed = []) (hsz : listed.size = ops.size) :
    ∀ i, i < ops.size → listed.getD i true = true := by
  intro i
  induction i using Nat.strongRecOn with
  | ind i ih =>
    intro hi
    cases hl : listed.getD i true with
    | true => rfl
    | false =>
      have hmem : i ∈ Region.ready md ops listed := by
        simp only [Region.ready, List.mem_filter, List.mem_range, Bool.and_eq_true, Bool.not_eq_true']
        refine ⟨hi, hl, ?_⟩
        rw [Array.getElem?_eq_getElem hi]
        simp only [Option.map_some, Option.getD_some]
        refine Array.all_eq_true_iff_forall_mem.2 fun e he => ?_
        have hlt := hw i _ (Array.getElem?_eq_getElem hi) e he
        have := ih e.on hlt (by omega)
        have h2 : listed.getD e.on false = true := by
          rw [Array.getD_eq_getD_getElem?] at this ⊢
          rw [Array.getElem?_eq_getElem (by omega)] at this ⊢
          exact this
        rw [h2, Bool.or_true]
      rw [h] at hmem
      cases hmem
end
end Go.Proofs.YtebjclmbacmilaaGreatDoor

namespace Go.Proofs.YtebjclmbacmilaaGreatDoor

/-- What has run: i, too. -/
def upd (L : Nat → Bool) (i : Nat) : Nat → Bool := fun j => if j = i then true else L j
theorem upd_self (L : Nat → Bool) (i : Nat) : upd L i i = true := if_pos rfl
theorem upd_ne (L : Nat → Bool) {i j : Nat} (h : j ≠ i) : upd L i j = L j := if_neg h
/-- What an operation waits for. -/
def depsOf (md : Region.Mode) (ops : Array Oper) (i : Nat) : List Nat :=
  match ops[i]? with
  | some o => (o.after.toList.filter fun e => Region.binds md e).map fun e => e.on
  | none => []
/-- Each operation waits for earlier ones alone. -/
def early (md : Region.Mode) (ops : Array Oper) : Bool := (List.range ops.size).all fun i => (depsOf md ops i).all fun j => decide (j < i)
def left (l : Array Bool) : Nat := l.toList.countP fun b => !b
def inL (l : Array Bool) : Nat → Bool := fun j => l.getD j false

theorem left_set {l : Array Bool} {i : Nat} (hi : i < l.size) (hf : l.getD i true = false) : left l = left (l.setIfInBounds i true) + 1 := by
  unfold left
  rw [Array.toList_setIfInBounds]
  have hl : i < l.toList.length := by simpa using hi
  have hg : l.toList[i] = false := by
    rw [Array.getD_eq_getD_getElem?, Array.getElem?_eq_getElem hi] at hf
    simpa using hf
  rw [List.countP_set (h := hl)]
  have hp : 0 < l.toList.countP fun b => !b := List.countP_pos_iff.2 ⟨false, by rw [← hg]; exact List.getElem_mem hl, rfl⟩
  simp only [hg, Bool.not_false, Bool.not_true, if_true, Bool.false_eq_true, if_false, Nat.add_zero]
  omega
theorem inL_set {l : Array Bool} {i : Nat} (hi : i < l.size) : inL (l.setIfInBounds i true) = upd (inL l) i := by
  funext j
  show (l.setIfInBounds i true).getD j false = if j = i then true else l.getD j false
  simp only [Array.getD_eq_getD_getElem?, Array.getElem?_setIfInBounds]
  by_cases h : j = i
  · subst h; simp [hi]
  · simp [h, Ne.symm h]
theorem inL_new (n : Nat) : inL (Array.replicate n false) = fun _ => false := by
  funext j
  show (Array.replicate n false).getD j false = false
  simp only [Array.getD_eq_getD_getElem?, Array.getElem?_replicate]
  split <;> rfl
theorem left_new (n : Nat) : left (Array.replicate n false) = n := by
  unfold left
  rw [Array.toList_replicate, List.countP_replicate]
  rfl

section
variable {P : Program} {ops : Array Oper} {Q : Exit → Act → World → Prop}
theorem region_inv {id : Nat} {a : Act} {w : World} (hm : P.follows .mixedOrders = true) (I : (Nat → Bool) → Act → World → Prop)
    (hw : early .any ops = true)
    (h0 : I (fun _ => false) a { w with drawn := w.drawn + 1 })
    (hstep : ∀ L a w i, I L a w → i < ops.size → L i = false → (∀ j ∈ depsOf .any ops i, L j = true) → wpOp P ops Q i (I (upd L i)) a w)
    (hend : ∀ L a w, I L a w → (∀ i, i < ops.size → L i = true) → Q .normal a w) : (Code.region id ops true).wp P Q a w := by
  refine wp_region_any hm ?_
  have hearly : ∀ (i : Nat) o, ops[i]? = some o → ∀ e ∈ o.after, Region.binds .any e = true → e.on < i := by
    intro i o ho e he hb
    have hi : i < ops.size := (Array.getElem?_eq_some_iff.1 ho).1
    have h1 := List.all_eq_true.1 hw i (List.mem_range.2 hi)
    have h2 := List.all_eq_true.1 h1 e.on (by
      unfold depsOf
      rw [ho]
      exact List.mem_map.2 ⟨e, List.mem_filter.2 ⟨Array.mem_toList_iff.2 he, hb⟩, rfl⟩)
    exact of_decide_eq_true h2
  have hall : ∀ l : Array Bool, l.size = ops.size → Region.ready .any ops l = [] → ∀ i, i < ops.size → l.getD i true = true := by
    intro l hl h i
    induction i using Nat.strongRecOn with
    | ind i ih =>
      intro hi
      cases hli : l.getD i true with
      | true => rfl
      | false =>
        have hmem : i ∈ Region.ready .any ops l := by
          simp only [Region.ready, List.mem_filter, List.mem_range, Bool.and_eq_true, Bool.not_eq_true']
          refine ⟨hi, hli, ?_⟩
          rw [Array.getElem?_eq_getElem hi]
          simp only [Option.map_some, Option.getD_some]
          refine Array.all_eq_true_iff_forall_mem.2 fun e he => ?_
          cases hb : Region.binds .any e with
          | false => rfl
          | true =>
            have hlt := hearly i _ (Array.getElem?_eq_getElem hi) e he hb
            have := ih e.on hlt (by omega)
            rw [Array.getD_eq_getD_getElem?, Array.getElem?_eq_getElem (by omega)] at this
            rw [Array.getD_eq_getD_getElem?, Array.getElem?_eq_getElem (by omega)]
            simpa using this
        rw [h] at hmem
        cases hmem
  have key := wpAny_inv (P := P) (ops := ops) (Q := Q) (md := .any) (fun n l a w => I (inL l) a w ∧ l.size = ops.size ∧ left l = n)
    (fun n l a w i ⟨hI, hs, hn⟩ hi => by
      have hi2 : i < ops.size := by
        simp only [Region.ready, List.mem_filter, List.mem_range] at hi
        exact hi.1
      obtain ⟨o, ho⟩ : ∃ o, ops[i]? = some o := ⟨_, Array.getElem?_eq_getElem hi2⟩
      obtain ⟨hr1, hr2⟩ := ready_of hi ho
      have hLi : inL l i = false := by
        unfold inL
        rw [Array.getD_eq_getD_getElem?, Array.getElem?_eq_getElem (by omega)] at hr1 ⊢
        exact hr1
      refine wpOp_mono (fun a' w' h' => ?_) (hstep (inL l) a w i hI hi2 hLi ?_)
      · refine ⟨by rw [inL_set (by omega)]; exact h', by rw [Array.size_setIfInBounds]; exact hs, ?_⟩
        have := left_set (l := l) (by omega) hr1
        omega
      · intro j hj
        unfold depsOf at hj
        rw [ho] at hj
        obtain ⟨e, he, rfl⟩ := List.mem_map.1 hj
        obtain ⟨he1, he2⟩ := List.mem_filter.1 he
        exact hr2 e (Array.mem_toList_iff.1 he1) he2)
    (fun n l a w ⟨hI, hs, _⟩ hr => hend _ _ _ hI (fun i hi => by
      have := hall l hs hr i hi
      unfold inL
      rw [Array.getD_eq_getD_getElem?, Array.getElem?_eq_getElem (by omega)] at this ⊢
      exact this))
    (fun l a w ⟨hI, hs, hn⟩ => by
      have hz : ∀ i, i < l.size → l.getD i true = true := fun i hi => by
        cases hg : l.getD i true with
        | true => rfl
        | false =>
          have := left_set hi hg
          omega
      refine List.filter_eq_nil_iff.2 fun i hi => ?_
      have := hz i (by have := List.mem_range.1 hi; omega)
      rw [this]
      simp)
  exact key _ _ _ _ ⟨by rw [inL_new]; exact h0, Array.size_replicate .., left_new _⟩
end
end Go.Proofs.YtebjclmbacmilaaGreatDoor
