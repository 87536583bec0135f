/- Append onto a slice of the call's own from whatever slice, at a step of a region and in a list. No conditions beside those typed. -/
import Derived.Test.YtebjclmbacmilaaGreatDoorC
import Derived.Deep.AppendLies
import Derived.Laws.AppendOwnNone
namespace Go.Proofs.YtebjclmbacmilaaGreatDoor
open Go.RowKit

/-- x is a slice of m elements, of size cells each, that holds news; nil included. -/
def SrcIs (w : World) (x : Value) (size m : Nat) (news : List Value) : Prop :=
  (x = .slice none 0 0 ∧ m = 0 ∧ news = []) ∨ ∃ ad c, x = .slice (some ad) m c ∧ news.length = m * size ∧ ∀ j u, news[j]? = some u → w.cell? (ad.add j) = some u

theorem SrcIs.mono {w w' : World} {x : Value} {size m : Nat} {news : List Value} (h : SrcIs w x size m news) (hw : ∀ a v, w.cell? a = some v → w'.cell? a = some v) : SrcIs w' x size m news := by
  rcases h with h | ⟨ad, c, h1, h2, h3⟩
  · exact .inl h
  · exact .inr ⟨ad, c, h1, h2, fun j u hj => hw _ _ (h3 j u hj)⟩

section
variable {P : Program} (w : World)
theorem run_append_src (t ty : TypeId) (base : Nat) (e : TypeId) (i : TypeInfo) (z : Value) (size bytes : Nat) (ht : P.underlying t = some (.slice e)) (hi : P.info? e = some i) (hz : i.zero = some z)
    (hsize : i.size = size) (hby : i.bytes = bytes) (hzs : z.cells.size = size) (hsz : 0 < size)
    (v : Value) (n : Nat) (xs : List Value) (hown : w.ownsRow base e size v n xs)
    (x : Value) (m : Nat) (news : List Value) (hx : SrcIs w x size m news) (h1 : ∀ u ∈ news, u.oneCell' = true)
    (h63 : n + m ≤ maxLen) (hbytes : (n + m) * bytes ≤ 140737488355328) (hbase : base ≤ w.heap.size) :
    ∃ v' w', (Builtin.append_ #[t, t] ty #[v, x]).run P w = .ok v' w' ∧ w'.ownsRow base e size v' (n + m) (xs ++ news) ∧ w.grownBy w' v.ownBlock ∧ (m = 0 → v = .slice none 0 0 → v' = .slice none 0 0) := by
  rcases hx with ⟨rfl, rfl, rfl⟩ | ⟨ad, c, rfl, h2, h3⟩
  · subst hsize
    refine ⟨v, w, run_append_owned_none (P := P) w base t ty e i _ ht hi v n xs hown, by simpa using hown, ⟨rfl, rfl, rfl, Nat.le_refl _, fun _ _ _ => rfl⟩, fun _ h => h⟩
  · obtain ⟨v', w', r1, r2, r3, r4⟩ := run_append_own (P := P) w base t ty e i z size bytes ht hi hz hsize hby hzs hsz v n xs hown ad m c news h2 h3 h1 h63 hbytes hbase
    exact ⟨v', w', r1, r2, r3, fun hm hv => r4.2 ⟨hv, hm⟩⟩
theorem wp_append_src {o : Oper} {a : Act} {K : Act → World → Prop} {Q : Exit → Act → World → Prop} (s xo : Operand) (t : TypeId)
    (ho : o.op = .call { callee := .builtin .append, args := #[s, xo], argTypes := #[t, t] })
    (base : Nat) (e : TypeId) (i : TypeInfo) (z : Value) (size bytes : Nat) (ht : P.underlying t = some (.slice e)) (hi : P.info? e = some i) (hz : i.zero = some z)
    (hsize : i.size = size) (hby : i.bytes = bytes) (hzs : z.cells.size = size) (hsz : 0 < size)
    (v : Value) (n : Nat) (xs : List Value) (hs : a.eval s = v) (hown : w.ownsRow base e size v n xs)
    (x : Value) (m : Nat) (news : List Value) (hxo : a.eval xo = x) (hx : SrcIs w x size m news) (h1 : ∀ u ∈ news, u.oneCell' = true)
    (h63 : n + m ≤ maxLen) (hbytes : (n + m) * bytes ≤ 140737488355328) (hbase : base ≤ w.heap.size)
    (h : ∀ v' w', w'.ownsRow base e size v' (n + m) (xs ++ news) → w.grownBy w' v.ownBlock → (m = 0 → v = .slice none 0 0 → v' = .slice none 0 0) → K (a.put o.dst v') w') : o.wp P a w K Q := by
  obtain ⟨v', w', hr, h2, h3, h4⟩ := run_append_src (P := P) w t o.type base e i z size bytes ht hi hz hsize hby hzs hsz v n xs hown x m news hx h1 h63 hbytes hbase
  unfold Oper.wp execOp
  simp only [ho, resolve, invoke, builtin, Sem.run_bind, Sem.run_pure, Result.andThen_ok, List.map_toArray, List.map_cons, List.map_nil, hs, hxo, hr]
  exact h v' w' h2 h3 h4
theorem step_append_src {ops : Array Oper} {o : Oper} {a : Act} {K : Act → World → Prop} {Q : Exit → Act → World → Prop} {E : Prop} (hgd : o.guard = none) (s xo : Operand) (t : TypeId)
    (ho : o.op = .call { callee := .builtin .append, args := #[s, xo], argTypes := #[t, t] })
    (base : Nat) (e : TypeId) (i : TypeInfo) (z : Value) (size bytes : Nat) (ht : P.underlying t = some (.slice e)) (hi : P.info? e = some i) (hz : i.zero = some z)
    (hsize : i.size = size) (hby : i.bytes = bytes) (hzs : z.cells.size = size) (hsz : 0 < size)
    (v : Value) (n : Nat) (xs : List Value) (hs : a.eval s = v) (hown : w.ownsRow base e size v n xs)
    (x : Value) (m : Nat) (news : List Value) (hxo : a.eval xo = x) (hx : SrcIs w x size m news) (h1 : ∀ u ∈ news, u.oneCell' = true)
    (h63 : n + m ≤ maxLen) (hbytes : (n + m) * bytes ≤ 140737488355328) (hbase : base ≤ w.heap.size)
    (h : ∀ v' w', w'.ownsRow base e size v' (n + m) (xs ++ news) → w.grownBy w' v.ownBlock → (m = 0 → v = .slice none 0 0 → v' = .slice none 0 0) → K (a.put o.dst v') w') :
    if Region.wanted o (yielded ops a.tmps) = true then Oper.wp P o a w K Q else E := by
  have hw : Region.wanted o (yielded ops a.tmps) = true := by simp [Region.wanted, hgd]
  rw [if_pos hw]
  exact wp_append_src w s xo t ho base e i z size bytes ht hi hz hsize hby hzs hsz v n xs hs hown x m news hxo hx h1 h63 hbytes hbase h
theorem wpList_append_src {ops : Array Oper} {rest : List Oper} {o : Oper} {a : Act} {Q : Exit → Act → World → Prop} (hgd : o.guard = none) (s xo : Operand) (t : TypeId)
    (ho : o.op = .call { callee := .builtin .append, args := #[s, xo], argTypes := #[t, t] })
    (base : Nat) (e : TypeId) (i : TypeInfo) (z : Value) (size bytes : Nat) (ht : P.underlying t = some (.slice e)) (hi : P.info? e = some i) (hz : i.zero = some z)
    (hsize : i.size = size) (hby : i.bytes = bytes) (hzs : z.cells.size = size) (hsz : 0 < size)
    (v : Value) (n : Nat) (xs : List Value) (hs : a.eval s = v) (hown : w.ownsRow base e size v n xs)
    (x : Value) (m : Nat) (news : List Value) (hxo : a.eval xo = x) (hx : SrcIs w x size m news) (h1 : ∀ u ∈ news, u.oneCell' = true)
    (h63 : n + m ≤ maxLen) (hbytes : (n + m) * bytes ≤ 140737488355328) (hbase : base ≤ w.heap.size)
    (h : ∀ v' w', w'.ownsRow base e size v' (n + m) (xs ++ news) → w.grownBy w' v.ownBlock → (m = 0 → v = .slice none 0 0 → v' = .slice none 0 0) → wpList P ops Q rest (a.put o.dst v') w') : wpList P ops Q (o :: rest) a w :=
  wpList_plain hgd fun _ hK => wp_append_src w s xo t ho base e i z size bytes ht hi hz hsize hby hzs hsz v n xs hs hown x m news hxo hx h1 h63 hbytes hbase fun v' w' h2 h3 h4 => hK _ _ (h v' w' h2 h3 h4)
end

/-- What a value that owns cells of one cell each looks like. -/
theorem ownsRow_block1 {w : World} {base : Nat} {e : TypeId} {v : Value} {n : Nat} {xs : List Value} (h : w.ownsRow base e 1 v n xs) (hn : 0 < n) :
    ∃ g cap spare, v = .slice (some ⟨g, 0, none⟩) n cap ∧ base ≤ g ∧ n ≤ cap ∧ IsBlock w g (xs ++ spare) := by
  obtain ⟨_, h2⟩ := h
  rcases h2 with ⟨_, h0⟩ | ⟨g, cap, cur, hv, hg, hh, hc, _, _, ht⟩
  · omega
  · refine ⟨g, cap, cur.toList.drop (n * 1), hv, hg, hc, e, ?_⟩
    rw [← ht, List.take_append_drop]
    exact hh
theorem ownsRow_nil_of {w : World} {base : Nat} {e : TypeId} {size : Nat} {v : Value} {xs : List Value} (h : w.ownsRow base e size v 0 xs) (hg : v.ownBlock = none) : v = .slice none 0 0 := by
  rcases h.2 with ⟨hv, _⟩ | ⟨g, cap, cur, hv, _⟩
  · exact hv
  · rw [hv] at hg; cases hg
end Go.Proofs.YtebjclmbacmilaaGreatDoor
