/- Native buckets by their keys: a map of keys to counters. Load, LoadOrStore, addToBucket. Conditions: as stated. math.Frexp: of each number it answers a fraction and an exponent, in any world the same. Conditions: as stated. (*histogramCounts).observe with native buckets of schema 0, of a number. Conditions: as stated. A histogram with native buckets of schema 0 and no classic ones: its state, observe, Observe. Conditions: as stated. -/
import Derived.Test.YtebjclmbacmilaaGreatDoorxH
import Derived.Maps.OwnSet
import Derived.Maps.Views
import Derived.Test.YtebjclmbacmilaaGreatDoorxLe
import Derived.Laws.BitsLemmas
import Derived.Test.YtebjclmbacmilaaGreatDoorxY
import Derived.Deep.DeepCutAuto
import Derived.Laws.BitsAllLaws
namespace Go.Proofs.YtebjclmbacmilaaGreatDoor
open Go.Maps (Keyed)

/-- A pointer to a counter, read as the number of its block. -/
def ptrR : Value → Option (DataW Unit × List MemPlace)
  | .pointer (some ⟨g, 0, none⟩) => some (.lit (.int .i64 g), [])
  | .pointer none => some (.nil, [])
  | _ => none
theorem ptrR_inv {v : Value} {d : DataW Unit} {ps : List MemPlace} (h : ptrR v = some (d, ps)) : (v = .pointer none ∧ d = .nil) ∨ ∃ g, v = .pointer (some ⟨g, 0, none⟩) ∧ d = .lit (.int .i64 g) := by
  unfold ptrR at h
  split at h
  · rename_i g
    simp only [Option.some.injEq, Prod.mk.injEq] at h
    exact .inr ⟨g, rfl, h.1.symm⟩
  · simp only [Option.some.injEq, Prod.mk.injEq] at h
    exact .inl ⟨rfl, h.1.symm⟩
  · cases h
theorem keyed3 : Keyed Tryz.prog 3 := Go.Maps.int_keyed Tryz.underlying3
def Wf (k : Int) : Prop := (Lit.int .i64 k).wf = true
theorem key3 {k : Int} (hk : Wf k) : keyOf Tryz.prog 3 (.int .i64 k) = some (.int .i64 k) := Go.Maps.keyOf_int_mk Tryz.underlying3 hk
theorem zero136 (w : World) : (zeroValue 136).run Tryz.prog w = .ok (.pointer none) w := by kernel_rfl
theorem lit_ne {k k' : Int} (h : k ≠ k') : Lit.int .i64 k ≠ Lit.int .i64 k' := fun e => h (by injection e)

/-- What is counted at a key, and a count more. -/
def updN (N : Int → Option Int) (key c : Int) : Int → Option Int := fun k => if k = key then some c else N k
/-- The counters of native buckets: the map at b holds pointers to one block a counter; all of them lie in S. -/
structure NIn (w : World) (S : Nat → Prop) (b n : Nat) (N : Int → Option Int) : Prop where
  map : S b
  ex : ∃ (D : DataW Unit) (G : Int → Nat), w.ownsMap Tryz.prog 3 ptrR b n D ∧ (∀ k, Wf k → Maps.has D (.int .i64 k) = (N k).isSome) ∧
    (∀ k c, Wf k → N k = some c → D.atKey (.int .i64 k) .nil = .lit (.int .i64 (G k)) ∧ S (G k) ∧ IsBlock w (G k) [.int .i64 c]) ∧ (∀ k k' c c', Wf k → Wf k' → N k = some c → N k' = some c' → G k = G k' → k = k')
/-- The same for a map that may be nil. -/
def NAt (w : World) (S : Nat → Prop) (h : Option Nat) (n : Nat) (N : Int → Option Int) : Prop := (h = none ∧ ∀ k, Wf k → N k = none) ∨ ∃ b, h = some b ∧ NIn w S b n N

theorem only_turned {w w' : World} {b : Nat} (h : w.mapTurned w' b) : Only (fun k => k = b) w w' := (Only.grown h.grown).mono (fun k _ e => by simpa using e.symm)
theorem map_ne_block {w : World} {b g n : Nat} {D : DataW Unit} {cs : List Value} (h : w.ownsMap Tryz.prog 3 ptrR b n D) (hg : IsBlock w g cs) : g ≠ b := by
  rintro rfl
  obtain ⟨es, clock, hb, _⟩ := h
  obtain ⟨T, hT⟩ := hg
  rw [hb] at hT
  cases hT

/-- A look at a key. -/
theorem NAt.look {w : World} {S : Nat → Prop} {h : Option Nat} {n : Nat} {N : Int → Option Int} (H : NAt w S h n N) (key : Int) (hk : Wf key) :
    ∃ v, (Instr.lookup 249 (.map h) (.int .i64 key) true).run Tryz.prog w = .ok (.tuple #[v, .bool (N key).isSome]) w ∧
      ∀ c, N key = some c → ∃ g, v = .pointer (some ⟨g, 0, none⟩) ∧ S g ∧ IsBlock w g [.int .i64 c] ∧ ∀ c', NAt (w.setCell ⟨g, 0, none⟩ (.int .i64 c')) S h n (updN N key c') := by
  rcases H with ⟨rfl, hN⟩ | ⟨b, rfl, hm, D, G, hown, hhas, hat, hinj⟩
  · have hl := Go.Maps.look_nil (w := w) (t := 249) (P := Tryz.prog) true keyed3 Tryz.underlying249 (zero136 w) (key3 hk)
    refine ⟨.pointer none, by rw [hN key hk]; exact hl, fun c hc => by rw [hN key hk] at hc; cases hc⟩
  · obtain ⟨v, ps, hl, hv⟩ := hown.look_ok (t := 249) keyed3 Tryz.underlying249 (zero136 w) (zd := .nil) (zp := []) rfl (key3 hk)
    rw [hhas key hk] at hl
    refine ⟨v, hl, fun c hc => ?_⟩
    obtain ⟨h1, h2, h3⟩ := hat key c hk hc
    rw [h1] at hv
    rcases ptrR_inv hv with ⟨_, hd⟩ | ⟨g, rfl, hd⟩
    · cases hd
    · have hg : G key = g := by
        have h5 : ((G key : Nat) : Int) = (g : Int) := by simpa using hd
        omega
      rw [hg] at h2 h3
      refine ⟨g, rfl, h2, h3, fun c' => .inr ⟨b, rfl, hm, D, G, hown.setCell (Ne.symm (map_ne_block hown h3)) _, fun k hk' => ?_, fun k x hk' hx => ?_, fun k k' x x' hk1 hk2 hx hx' => ?_⟩⟩
      · rw [hhas k hk']
        unfold updN
        split
        · rename_i e; subst e; rw [hc]; rfl
        · rfl
      · unfold updN at hx
        split at hx
        · rename_i e
          subst e
          cases hx
          rw [hg]
          exact ⟨by rw [h1, hg], h2, h3.set 0 _⟩
        · rename_i e
          obtain ⟨q1, q2, q3⟩ := hat k x hk' hx
          exact ⟨q1, q2, q3.set_ne (fun e' => e (hinj k key x c hk' hk hx hc (by rw [hg]; exact e'))) _⟩
      · have h' : ∀ k x, updN N key c' k = some x → ∃ y, N k = some y := fun k x hx => by
          unfold updN at hx
          split at hx
          · rename_i e; subst e; exact ⟨c, hc⟩
          · exact ⟨x, hx⟩
        obtain ⟨y, hy⟩ := h' k x hx
        obtain ⟨y', hy'⟩ := h' k' x' hx'
        exact hinj k k' y y' hk1 hk2 hy hy'

/-- A counter of a new key. -/
theorem NIn.store {w : World} {S : Nat → Prop} {b n g : Nat} {N : Int → Option Int} {c : Int} (H : NIn w S b n N) (key : Int) (hk : Wf key) (hN : N key = none) (hn : n < maxLen) (hg : IsBlock w g [.int .i64 c]) (hS : ¬ S g) :
    ∃ w', (Instr.mapUpdate 249 (.map (some b)) (.int .i64 key) (.pointer (some ⟨g, 0, none⟩))).run Tryz.prog w = .ok () w' ∧ NIn w' (fun k => S k ∨ k = g) b (n + 1) (updN N key c) ∧ Only (fun k => k = b) w w' := by
  obtain ⟨hm, D, G, hown, hhas, hat, hinj⟩ := H
  obtain ⟨w', hrun, hown', ht⟩ := hown.store (t := 249) keyed3 Tryz.underlying249 hn (key3 hk) (val := .pointer (some ⟨g, 0, none⟩)) (d := .lit (.int .i64 g)) (ps := []) rfl
  have ho := only_turned ht
  have hgb := map_ne_block hown hg
  have hlit : WideAt.IsKeyLit (.int .i64 key) := keyed3.key (key3 hk)
  refine ⟨w', hrun, ⟨.inl hm, D.put (.int .i64 key) (.lit (.int .i64 g)), fun k => if k = key then g else G k, hown', fun k hk' => ?_, fun k x hk' hx => ?_, fun k k' x x' hk1 hk2 hx hx' he => ?_⟩, ho⟩
  · unfold updN
    by_cases e : k = key
    · subst e; rw [if_pos rfl, Go.Maps.has_put_same hown.isMap hlit]; rfl
    · rw [if_neg e, Go.Maps.has_put_other (lit_ne e), hhas k hk']
  · unfold updN at hx
    by_cases e : k = key
    · subst e
      rw [if_pos rfl] at hx
      cases hx
      simp only [if_pos]
      exact ⟨Go.Maps.atKey_put_same hown.isMap hlit _ _, .inr trivial, ho.isBlock hg hgb⟩
    · rw [if_neg e] at hx
      obtain ⟨q1, q2, q3⟩ := hat k x hk' hx
      simp only [if_neg e]
      exact ⟨by rw [Go.Maps.atKey_put_other (lit_ne e)]; exact q1, .inl q2, ho.isBlock q3 (map_ne_block hown q3)⟩
  · unfold updN at hx hx'
    simp only at he
    by_cases e : k = key
    · by_cases e' : k' = key
      · rw [e, e']
      · rw [if_pos e, if_neg e'] at he
        rw [if_neg e'] at hx'
        exact absurd (by rw [he]; exact (hat k' x' hk2 hx').2.1) hS
    · by_cases e' : k' = key
      · rw [if_neg e, if_pos e'] at he
        rw [if_neg e] at hx
        exact absurd (by rw [← he]; exact (hat k x hk1 hx).2.1) hS
      · rw [if_neg e, if_neg e'] at he
        rw [if_neg e] at hx
        rw [if_neg e'] at hx'
        exact hinj k k' x x' hk1 hk2 hx hx' he
theorem NIn.made (w : World) : NIn (w.alloc (.map #[] 0)) (fun k => k = w.heap.size) w.heap.size 0 (fun _ => none) :=
  ⟨rfl, .map [], fun _ => 0, World.ownsMap_made w Tryz.prog 3 ptrR, fun k _ => rfl, fun k c _ h => (by cases h), fun k k' c c' _ _ h => (by cases h)⟩
theorem eq_nil (b : Nat) (w : World) : (binOp .eql 249 (.map (some b)) (.map none)).run Tryz.prog w = .ok (.bool false) w := by kernel_rfl
theorem eq_nil_nil (w : World) : (binOp .eql 249 (.map none) (.map none)).run Tryz.prog w = .ok (.bool true) w := by kernel_rfl
/-- What other calls do to the world leaves the counters alone. -/
theorem NIn.kept {w w' : World} {S T : Nat → Prop} {b n : Nat} {N : Int → Option Int} (H : NIn w S b n N) (ho : Only T w w') (hT : ∀ k, S k → ¬ T k) : NIn w' S b n N := by
  obtain ⟨hm, D, G, hown, hhas, hat, hinj⟩ := H
  refine ⟨hm, D, G, ?_, hhas, fun k c hk hc => ?_, hinj⟩
  · have hlt := hown.lt
    obtain ⟨es, clock, hb, r⟩ := hown
    exact ⟨es, clock, by rw [ho.block b hlt (hT b hm)]; exact hb, r⟩
  · obtain ⟨q1, q2, q3⟩ := hat k c hk hc
    exact ⟨q1, q2, ho.isBlock q3 (hT _ q2)⟩
theorem NAt.kept {w w' : World} {S T : Nat → Prop} {h : Option Nat} {n : Nat} {N : Int → Option Int} (H : NAt w S h n N) (ho : Only T w w') (hT : ∀ k, S k → ¬ T k) : NAt w' S h n N := by
  rcases H with H | ⟨b, rfl, H⟩
  · exact .inl H
  · exact .inr ⟨b, rfl, H.kept ho hT⟩
theorem NIn.congr {w : World} {S : Nat → Prop} {b n : Nat} {N N' : Int → Option Int} (H : NIn w S b n N) (he : ∀ k, Wf k → N k = N' k) : NIn w S b n N' := by
  obtain ⟨hm, D, G, hown, hhas, hat, hinj⟩ := H
  exact ⟨hm, D, G, hown, fun k hk => by rw [← he k hk]; exact hhas k hk, fun k c hk hc => hat k c hk (by rw [he k hk]; exact hc), fun k k' c c' hk hk' hc hc' => hinj k k' c c' hk hk' (by rw [he k hk]; exact hc) (by rw [he k' hk']; exact hc')⟩
theorem NIn.lt {w : World} {S : Nat → Prop} {b n : Nat} {N : Int → Option Int} (H : NIn w S b n N) : b < w.heap.size := by
  obtain ⟨_, _, _, hown, _⟩ := H
  exact hown.lt

set_option maxRecDepth 100000 in
/-- Load. -/
theorem load_any (c off : Nat) (h : Option Nat) (S : Nat → Prop) (n : Nat) (N : Int → Option Int) (key : Int) (w : World) (hw : Wf key) (hc : w.cell? ⟨c, off, none⟩ = some (.map h)) (H : NAt w S h n N) :
    Calls Tryz.prog 277 #[.pointer (some ⟨c, off, none⟩), .int .i64 key] w fun e w' => w' = w ∧ ∃ v, e = .returned (.tuple #[v, .bool (N key).isSome]) ∧
      ∀ x, N key = some x → ∃ g, v = .pointer (some ⟨g, 0, none⟩) ∧ S g ∧ IsBlock w g [.int .i64 x] ∧ ∀ c', NAt (w.setCell ⟨g, 0, none⟩ (.int .i64 c')) S h n (updN N key c') := by
  obtain ⟨v, hl, hv⟩ := H.look key hw
  have HV := Lib.hid hv
  clear hv H
  go_enter Tryz.func277, Tryz.ntmps277
  go_wp2
  go_ret2
  exact ⟨rfl, v, rfl, HV.out⟩

set_option maxRecDepth 100000 in
/-- LoadOrStore of a new key into a map that there is. -/
theorem los_some (c off b g n : Nat) (S : Nat → Prop) (N : Int → Option Int) (x key : Int) (w : World) (hk : Wf key) (hc : w.cell? ⟨c, off, none⟩ = some (.map (some b))) (H : NIn w S b n N) (hN : N key = none) (hn : n < maxLen) (hg : IsBlock w g [.int .i64 x]) (hS : ¬ S g) :
    Calls Tryz.prog 298 #[.pointer (some ⟨c, off, none⟩), .int .i64 key, .pointer (some ⟨g, 0, none⟩)] w fun e w' => e = .returned (.tuple #[.pointer (some ⟨g, 0, none⟩), .bool false]) ∧ NIn w' (fun k => S k ∨ k = g) b (n + 1) (updN N key x) ∧ Only (fun k => k = b) w w' := by
  obtain ⟨v, hl, _⟩ := (show NAt w S (some b) n N from .inr ⟨b, rfl, H⟩).look key hk
  rw [hN] at hl
  obtain ⟨w2, hst, hin, ho⟩ := H.store key hk hN hn hg hS
  have HF := Lib.hid (And.intro hin ho)
  clear H hN hn hg hS hin ho
  have heq := eq_nil b
  go_enter Tryz.func298, Tryz.ntmps298
  go_wp2
  go_ret2
  exact ⟨rfl, HF.out⟩

set_option maxRecDepth 100000 in
/-- LoadOrStore into a nil map: it is made. -/
theorem los_nil (c off g : Nat) (cs : List Value) (x key : Int) (w : World) (hk : Wf key) (hb : IsBlock w c cs) (hoff : cs[off]? = some (.map none)) (hg : IsBlock w g [.int .i64 x]) (hgc : g ≠ c) :
    Calls Tryz.prog 298 #[.pointer (some ⟨c, off, none⟩), .int .i64 key, .pointer (some ⟨g, 0, none⟩)] w fun e w' => e = .returned (.tuple #[.pointer (some ⟨g, 0, none⟩), .bool false]) ∧ IsBlock w' c (cs.set off (.map (some w.heap.size))) ∧
      NIn w' (fun k => k = w.heap.size ∨ k = g) w.heap.size 1 (updN (fun _ => none) key x) ∧ Only (fun k => k = c) w w' := by
  obtain ⟨v, hl, _⟩ := (show NAt w (fun _ => False) none 0 (fun _ => none) from .inl ⟨rfl, fun _ _ => rfl⟩).look key hk
  have hc := hb.cell hoff
  have hfr := hb.free off
  have hW1 := hb.set off (.map (some w.heap.size))
  have hsz1 : (w.setCell ⟨c, off, none⟩ (.map (some w.heap.size))).heap.size = w.heap.size := by simp
  have hW := hW1.alloc (.map #[] 0)
  have hoW : Only (fun k => k = c) w ((w.setCell ⟨c, off, none⟩ (.map (some w.heap.size))).alloc (.map #[] 0)) := ((Only.refl (fun k => k = c) w).setCell (p := ⟨c, off, none⟩) (.inl rfl) _).alloc _
  have hcl := hb.lt
  have hM : NIn ((w.setCell ⟨c, off, none⟩ (.map (some w.heap.size))).alloc (.map #[] 0)) (fun k => k = w.heap.size) w.heap.size 0 (fun _ => none) := by
    have h := NIn.made (w.setCell ⟨c, off, none⟩ (.map (some w.heap.size)))
    rw [hsz1] at h
    exact h
  have hgl := hg.lt
  have hg' : IsBlock ((w.setCell ⟨c, off, none⟩ (.map (some w.heap.size))).alloc (.map #[] 0)) g [.int .i64 x] := (hg.set_ne hgc _).alloc _
  obtain ⟨w2, hst, hin, ho⟩ := hM.store key hk rfl (by unfold maxLen; omega) hg' (fun e => by omega)
  have hcell : off < cs.length := by
    rcases Nat.lt_or_ge off cs.length with h | h
    · exact h
    · rw [List.getElem?_eq_none h] at hoff; cases hoff
  have hcW : ((w.setCell ⟨c, off, none⟩ (.map (some w.heap.size))).alloc (.map #[] 0)).cell? ⟨c, off, none⟩ = some (.map (some w.heap.size)) := hW.cell (by rw [List.getElem?_set]; simp [hcell])
  have HF := Lib.hid (And.intro (ho.isBlock hW (fun e => by omega)) (And.intro hin (((hoW.mono (T := fun k => k = c ∨ w.heap.size ≤ k) (fun k _ e => Or.inl e)).trans (ho.mono (fun k _ e => Or.inr (by omega)))).mono (fun k hk' e => e.resolve_right (by omega)))))
  clear hb hW1 hW hoW hM hg hg' hin ho
  have hmm : ∀ (w : World), (Instr.makeMap 249 none).run Tryz.prog w = .ok (.map (some w.heap.size)) (w.alloc (.map #[] 0)) := fun _ => rfl
  have heq := eq_nil_nil
  go_enter Tryz.func298, Tryz.ntmps298
  go_wp2
  go_ret2
  exact ⟨rfl, HF.out⟩

theorem set_same {cs : List Value} {i : Nat} {v : Value} (h : cs[i]? = some v) : cs.set i v = cs := by
  apply List.ext_getElem?
  intro j
  rw [List.getElem?_set]
  by_cases e : i = j
  · subst e
    rw [if_pos rfl, h]
    have : i < cs.length := by
      rcases Nat.lt_or_ge i cs.length with h' | h'
      · exact h'
      · rw [List.getElem?_eq_none h'] at h; cases h
    rw [if_pos this]
  · rw [if_neg e]

set_option maxRecDepth 100000 in
/-- addToBucket: a counter more, or a new one. -/
theorem addTo_any (c off : Nat) (cs : List Value) (h : Option Nat) (S : Nat → Prop) (n : Nat) (N : Int → Option Int) (key inc : Int) (w : World) (hk : Wf key) (hb : IsBlock w c cs) (hoff : cs[off]? = some (.map h)) (H : NAt w S h n N) (hn : n < 4611686018427387904)
    (hS : ∀ k, S k → k ≠ c ∧ k < w.heap.size) (hsum : ∀ x, N key = some x → -9223372036854775808 ≤ x + inc ∧ x + inc ≤ 9223372036854775807) :
    Calls Tryz.prog 271 #[.pointer (some ⟨c, off, none⟩), .int .i64 key, .int .i64 inc] w fun e w' => ∃ (h' : Option Nat) (S' : Nat → Prop) (n' : Nat), e = .returned (.bool (N key).isNone) ∧ IsBlock w' c (cs.set off (.map h')) ∧ NAt w' S' h' n' (updN N key (((N key).getD 0) + inc)) ∧ n' ≤ n + 1 ∧
      (∀ k, S' k → S k ∨ w.heap.size ≤ k ∧ k < w'.heap.size) ∧ Only (fun k => S k ∨ k = c) w w' := by
  have hc := hb.cell hoff
  have hset := set_same hoff
  have HLD := Lib.hid (load_any c off h S n N key w hk hc H)
  go_enter Tryz.func271, Tryz.ntmps271
  go_wp2_with fail
  refine HLD.out.mono ?_
  rintro e w' ⟨rfl, v, rfl, hv⟩
  cases hN : N key with
  | some x =>
    obtain ⟨g, rfl, hSg, hg, hbump⟩ := hv x hN
    obtain ⟨hs1, hs2⟩ := hsum x hN
    have g0 := hg.cell (i := 0) rfl
    have gf := hg.free 0
    have HF : Go.RowKit.Hid (IsBlock (w'.setCell ⟨g, 0, none⟩ (.int .i64 (x + inc))) c (cs.set off (.map h)) ∧ NAt (w'.setCell ⟨g, 0, none⟩ (.int .i64 (x + inc))) S h n (updN N key (x + inc)) ∧ n ≤ n + 1 ∧ (∀ k, S k → S k ∨ w'.heap.size ≤ k ∧ k < (w'.setCell ⟨g, 0, none⟩ (.int .i64 (x + inc))).heap.size) ∧ Only (fun k => S k ∨ k = c) w' (w'.setCell ⟨g, 0, none⟩ (.int .i64 (x + inc)))) := Lib.hid
      ⟨by rw [hset]; exact hb.set_ne (fun e => (hS g hSg).1 e.symm) _, hbump _, by omega, fun k hk' => .inl hk', (Only.refl _ _).setCell (p := ⟨g, 0, none⟩) (.inl (.inl hSg)) _⟩
    have HN := Lib.hid hN
    clear hv hbump hg hb hoff hset H hsum HLD hS hN
    go_wp2
    go_ret
    rw [HN.out]
    exact ⟨h, S, n, rfl, HF.out⟩
  | none =>
    have HN := Lib.hid hN
    have hgn : IsBlock (w'.alloc (.cells #[.int .i64 inc] 2)) w'.heap.size [.int .i64 inc] := IsBlock.new w' [.int .i64 inc] 2
    have hcl := hb.lt
    have hwf := hk
    rcases H with ⟨rfl, hNn⟩ | ⟨b, rfl, HI⟩
    · have HL := Lib.hid (los_nil c off w'.heap.size cs inc key (w'.alloc (.cells #[.int .i64 inc] 2)) hk (hb.alloc _) hoff hgn (by omega))
      have hNf : ∀ k, Wf k → N k = none := hNn
      have HNF := Lib.hid hNf
      clear hv hb hoff hset hNn hNf hS hsum HLD hgn hN
      go_wp2_with fail
      refine HL.out.mono ?_
      rintro e w3 ⟨rfl, q1, q2, q3⟩
      have HF := Lib.hid (And.intro q1 (And.intro q2 q3))
      clear q1 q2 q3 HL
      go_wp2
      go_ret
      rw [HN.out]
      refine ⟨_, _, 1, rfl, HF.out.1, .inr ⟨_, rfl, HF.out.2.1.congr (fun k hk' => ?_)⟩, by omega, fun k e => ?_, ?_⟩
      · unfold updN
        split
        · simp
        · exact (HNF.out k hk').symm
      · have hb3 := HF.out.2.1.lt
        have hs3 := HF.out.2.2.size
        rw [World.size_alloc] at e hb3 hs3
        rcases e with e | e
        · exact .inr ⟨by omega, by omega⟩
        · exact .inr ⟨by omega, by omega⟩
      · exact (((Only.refl (fun k => k = c) w').alloc _).trans HF.out.2.2).mono (fun k _ e => .inr e)
    · have hSn : ¬ S w'.heap.size := fun e => by have := (hS _ e).2; omega
      have HL := Lib.hid (los_some c off b w'.heap.size n S N inc key (w'.alloc (.cells #[.int .i64 inc] 2)) hk ((hb.alloc _).cell hoff) (HI.kept (T := fun _ => False) ((Only.refl _ w').alloc _) (fun _ _ => id)) hN (by unfold maxLen; omega) hgn hSn)
      have HSB := Lib.hid (HI.map)
      have HB := Lib.hid hb
      have HST := Lib.hid hset
      have HBC := Lib.hid ((hS b HI.map).1)
      clear hv hb hoff hset HI hS hsum HLD hgn hN hSn
      go_wp2_with fail
      refine HL.out.mono ?_
      rintro e w3 ⟨rfl, q2, q3⟩
      have HF := Lib.hid (And.intro q2 q3)
      clear q2 q3 HL
      go_wp2
      go_ret
      rw [HN.out]
      refine ⟨_, _, n + 1, rfl, by rw [HST.out]; exact HF.out.2.isBlock (HB.out.alloc _) (fun e => HBC.out e.symm), .inr ⟨b, rfl, HF.out.1.congr (fun k _ => by simp)⟩, by omega, fun k e => ?_, ?_⟩
      · have hs3 := HF.out.2.size
        rw [World.size_alloc] at hs3
        rcases e with e | e
        · exact .inl e
        · exact .inr ⟨by omega, by omega⟩
      · exact (((Only.refl (fun k => k = b) w').alloc _).trans HF.out.2).mono (fun k _ e => .inl (by rw [e]; exact HSB.out))
end Go.Proofs.YtebjclmbacmilaaGreatDoor

namespace Go.Proofs.YtebjclmbacmilaaGreatDoor
open Go.RowKit

/-- The word without its sign. -/
def absW (v : Nat) : Nat := (bits .andNot .u64 (v : Int) 9223372036854775808).toNat
theorem abs_any (v : Nat) (w : World) : Calls Tryz.prog 128 #[.float .f64 v] w fun e w' => e = .returned (.float .f64 (absW v)) ∧ w' = w := by
  go_enter Tryz.func128, Tryz.ntmps128
  go_wp2
  go_ret
  exact ⟨rfl, rfl⟩
theorem exp_bits (v : Nat) (h : v < 18446744073709551616) : ∃ e : Int, bits .and .u64 ((v : Int) / 4503599627370496) 2047 = e ∧ 0 ≤ e ∧ e ≤ 2047 := by
  have h1 := bits_mask .u64 64 (by decide) (fun n h0 h1 => by show n % 2 ^ 64 = n; omega) 11 (by decide) ((v : Int) / 4503599627370496) (by omega) (by omega)
  refine ⟨_, rfl, ?_, ?_⟩
  · rw [show (2047 : Int) = 2 ^ 11 - 1 by decide, h1]; omega
  · rw [show (2047 : Int) = 2 ^ 11 - 1 by decide, h1]; omega

/-- What Frexp answers. -/
def FrexpIs (v : Nat) (fr : Nat) (ex : Int) : Prop := -1200 ≤ ex ∧ ex ≤ 1200 ∧ ∀ w, Calls Tryz.prog 195 #[.float .f64 v] w fun e w' => e = .returned (.tuple #[.float .f64 fr, .int .i64 ex]) ∧ w' = w
theorem frexp_sub (v r : Nat) (hr : r < 18446744073709551616) (h1 : (FloatKind.f64.format.order v 0 == some .eq) = false) (h2 : (FloatKind.f64.format.order (absW v) 9218868437227405311 == some .gt) = false) (h3 : (FloatKind.f64.format.order v v != some .eq) = false)
    (h4 : (FloatKind.f64.format.order (absW v) 4503599627370496 == some .lt) = true) (h5 : Ieee.double.mul v 4841369599423283200 = some r) : ∃ fr ex, FrexpIs v fr ex := by
  obtain ⟨e, he, he0, he1⟩ := exp_bits r hr
  refine ⟨(bits .or .u64 (bits .andNot .u64 (r : Int) 9218868437227405312) 4602678819172646912).toNat, -52 + (e - 1023 + 1), by omega, by omega, fun w => ?_⟩
  have h6 : ∀ w, (binOp .mul 25 (.float .f64 v) (.float .f64 4841369599423283200)).run Tryz.prog w = .ok (.float .f64 r) w := fun w => run_float_arith w .mul 25 .f64 _ _ _ h5
  unfold absW at h2 h4
  clear h5
  go_enter Tryz.func195, Tryz.ntmps195
  go_wp2
  go_ret2
  exact ⟨rfl, rfl⟩
theorem frexp_norm (v : Nat) (hv : v < 18446744073709551616) (h1 : (FloatKind.f64.format.order v 0 == some .eq) = false) (h2 : (FloatKind.f64.format.order (absW v) 9218868437227405311 == some .gt) = false) (h3 : (FloatKind.f64.format.order v v != some .eq) = false)
    (h4 : (FloatKind.f64.format.order (absW v) 4503599627370496 == some .lt) = false) : ∃ fr ex, FrexpIs v fr ex := by
  obtain ⟨e, he, he0, he1⟩ := exp_bits v hv
  refine ⟨(bits .or .u64 (bits .andNot .u64 (v : Int) 9218868437227405312) 4602678819172646912).toNat, e - 1023 + 1, by omega, by omega, fun w => ?_⟩
  unfold absW at h2 h4
  clear hv
  go_enter Tryz.func195, Tryz.ntmps195
  go_wp2
  go_ret2
  exact ⟨rfl, rfl⟩
theorem frexp_zero (v : Nat) (h1 : (FloatKind.f64.format.order v 0 == some .eq) = true) : ∃ fr ex, FrexpIs v fr ex := by
  refine ⟨v, 0, by omega, by omega, fun w => ?_⟩
  go_enter Tryz.func195, Tryz.ntmps195
  go_wp2
  go_ret2
  exact ⟨rfl, rfl⟩
theorem frexp_inf (v : Nat) (h1 : (FloatKind.f64.format.order v 0 == some .eq) = false) (h2 : (FloatKind.f64.format.order (absW v) 9218868437227405311 == some .gt) = true) : ∃ fr ex, FrexpIs v fr ex := by
  refine ⟨v, 0, by omega, by omega, fun w => ?_⟩
  unfold absW at h2
  go_enter Tryz.func195, Tryz.ntmps195
  go_wp2
  go_ret2
  exact ⟨rfl, rfl⟩
theorem frexp_nan (v : Nat) (h1 : (FloatKind.f64.format.order v 0 == some .eq) = false) (h2 : (FloatKind.f64.format.order (absW v) 9218868437227405311 == some .gt) = false) (h3 : (FloatKind.f64.format.order v v != some .eq) = true) : ∃ fr ex, FrexpIs v fr ex := by
  refine ⟨v, 0, by omega, by omega, fun w => ?_⟩
  unfold absW at h2
  go_enter Tryz.func195, Tryz.ntmps195
  go_wp2
  go_ret2
  exact ⟨rfl, rfl⟩
theorem frexp_any (v : Nat) (hv : v < 18446744073709551616) : ∃ fr ex, FrexpIs v fr ex := by
  cases h1 : (FloatKind.f64.format.order v 0 == some .eq) with
  | true => exact frexp_zero v h1
  | false =>
    cases h2 : (FloatKind.f64.format.order (absW v) 9218868437227405311 == some .gt) with
    | true => exact frexp_inf v h1 h2
    | false =>
      cases h3 : (FloatKind.f64.format.order v v != some .eq) with
      | true => exact frexp_nan v h1 h2 h3
      | false =>
        cases h4 : (FloatKind.f64.format.order (absW v) 4503599627370496 == some .lt) with
        | false => exact frexp_norm v hv h1 h2 h3 h4
        | true =>
          have hn : Fl.isNaN v = false := by
            cases hh : Fl.isNaN v with
            | false => rfl
            | true => have := neq_nan hh; rw [this] at h3; cases h3
          have hz : NZ 4841369599423283200 := .inr ⟨_, _, _, rfl, by decide⟩
          obtain ⟨r, hr, _⟩ := mul_ok hz (x := v) ⟨hn, fun hf => absurd ⟨_, _, _, rfl, by decide⟩ hf⟩
          exact frexp_sub v r (Ieee.Format.mul_lt Ieee.double hr) h1 h2 h3 h4 hr

/-- Frexp. -/
theorem frexp_is (v fr : Nat) (ex : Int) (h : FrexpIs v fr ex) (w : World) : Calls Tryz.prog 175 #[.float .f64 v] w fun e w' => e = .returned (.tuple #[.float .f64 fr, .int .i64 ex]) ∧ w' = w := by
  have H := Lib.hid (h.2.2 w)
  clear h
  go_enter Tryz.func175, Tryz.ntmps175
  go_wp2_with fail
  refine H.out.mono ?_
  rintro e w' ⟨rfl, rfl⟩
  go_wp2_with fail
  go_ret2
  exact ⟨rfl, rfl⟩
end Go.Proofs.YtebjclmbacmilaaGreatDoor

namespace Go.Proofs.YtebjclmbacmilaaGreatDoor
open Go.RowKit

theorem isInf0_any (v : Nat) (w : World) : Calls Tryz.prog 107 #[.float .f64 v, .int .i64 0] w fun e w' => e = .returned (.bool (fgt (absW v) 9218868437227405311)) ∧ w' = w := by
  go_enter Tryz.func107, Tryz.ntmps107
  go_wp2
  go_ret
  exact ⟨rfl, rfl⟩
theorem absW_lt {v : Nat} (h : v < 18446744073709551616) : absW v < 18446744073709551616 := by
  unfold absW
  have h1 := u64_andNot_nat v 9223372036854775808 h (by decide)
  have h2 : (v &&& (18446744073709551615 - 9223372036854775808)) ≤ v := Nat.and_le_left
  rw [show (9223372036854775808 : Int) = ((9223372036854775808 : Nat) : Int) from rfl, h1]
  simp only [Int.toNat_natCast]
  omega
/-- The number that is counted in place of an infinite one. -/
def clip (v : Nat) : Nat := if fgt (absW v) 9218868437227405311 = true then (if fgt v 9218868437227405311 = true then 9218868437227405311 else 18442240474082181119) else v

theorem clip_lt {v : Nat} (h : v < 18446744073709551616) : clip v < 18446744073709551616 := by
  unfold clip
  split
  · split <;> decide
  · exact h
/-- What an observation may do to the counts. -/
structure NStep (s s' : CSt) (v r : Nat) : Prop where
  sum : s'.sum = r
  add : AddTo s.sum v r
  cnt : s'.cnt = s.cnt + 1
  zt : s'.zt = s.zt
  sch : s'.sch = s.sch
  bk : s'.bk = s.bk
  zero : s'.zero ≤ s.zero + 1
  nb : s'.nb ≤ s.nb + 1
  nb0 : 0 ≤ s'.nb
/-- The counters of native buckets of one histogramCounts: they lie in Z; there are at most m of either sign, none of them above m. -/
structure NSt (w : World) (Z : Nat → Prop) (pos neg : Option Nat) (m : Nat) : Prop where
  ex : ∃ (Sp Sn : Nat → Prop) (np nn : Nat) (Np Nn : Int → Option Int), NAt w Sp pos np Np ∧ NAt w Sn neg nn Nn ∧ np ≤ m ∧ nn ≤ m ∧ (∀ k, Sp k → ¬ Sn k) ∧ (∀ k, Sp k ∨ Sn k → Z k) ∧
    (∀ k x, Np k = some x → 0 ≤ x ∧ x ≤ m) ∧ (∀ k x, Nn k = some x → 0 ≤ x ∧ x ≤ m)
theorem NSt.kept {w w' : World} {Z T : Nat → Prop} {pos neg : Option Nat} {m : Nat} (H : NSt w Z pos neg m) (ho : Only T w w') (hT : ∀ k, Z k → ¬ T k) : NSt w' Z pos neg m := by
  obtain ⟨Sp, Sn, np, nn, Np, Nn, h1, h2, h3, h4, h5, h6, h7, h8⟩ := H
  exact ⟨Sp, Sn, np, nn, Np, Nn, h1.kept ho (fun k hk => hT k (h6 k (.inl hk))), h2.kept ho (fun k hk => hT k (h6 k (.inr hk))), h3, h4, h5, h6, h7, h8⟩
theorem NSt.more {w : World} {Z : Nat → Prop} {pos neg : Option Nat} {m m' : Nat} (H : NSt w Z pos neg m) (h : m ≤ m') : NSt w Z pos neg m' := by
  obtain ⟨Sp, Sn, np, nn, Np, Nn, h1, h2, h3, h4, h5, h6, h7, h8⟩ := H
  exact ⟨Sp, Sn, np, nn, Np, Nn, h1, h2, by omega, by omega, h5, h6, fun k x hk => by have := h7 k x hk; omega, fun k x hk => by have := h8 k x hk; omega⟩
theorem NSt.wide {w : World} {Z Z' : Nat → Prop} {pos neg : Option Nat} {m : Nat} (H : NSt w Z pos neg m) (h : ∀ k, Z k → Z' k) : NSt w Z' pos neg m := by
  obtain ⟨Sp, Sn, np, nn, Np, Nn, h1, h2, h3, h4, h5, h6, h7, h8⟩ := H
  exact ⟨Sp, Sn, np, nn, Np, Nn, h1, h2, h3, h4, h5, fun k hk => h k (h6 k hk), h7, h8⟩
theorem updN_le {N : Int → Option Int} {key : Int} {m : Nat} (h : ∀ k x, N k = some x → 0 ≤ x ∧ x ≤ m) (inc : Int) (hi : 0 ≤ inc) (m' : Nat) (hm : (m : Int) + inc ≤ m') : ∀ k x, updN N key ((N key).getD 0 + inc) k = some x → 0 ≤ x ∧ x ≤ m' := by
  intro k x hx
  unfold updN at hx
  split at hx
  · cases hx
    cases hN : N key with
    | none => simp only [Option.getD_none]; omega
    | some y => have := h key y hN; simp only [Option.getD_some]; omega
  · have := h k x hx; omega
def AddTo1 (w w' : World) (Z : Nat → Prop) : Nat → Prop := fun k => Z k ∨ w.heap.size ≤ k ∧ k < w'.heap.size

/-- addToBucket of the positive counters. -/
theorem addPos (c b : Nat) (s : CSt) (Z : Nat → Prop) (m m' : Nat) (key inc : Int) (w : World) (hk : Wf key) (Hc : IsBlock w c (s.cells b)) (H : NSt w Z s.pos s.neg m) (hZ : ∀ k, Z k → k ≠ c ∧ k < w.heap.size) (hi : 0 ≤ inc) (hmm : (m : Int) + inc ≤ m') (hm' : (m' : Int) ≤ 4611686018427387904) (h1 : m + 1 ≤ m') :
    Calls Tryz.prog 271 #[.pointer (some ⟨c, 7, none⟩), .int .i64 key, .int .i64 inc] w fun e w' => ∃ (cr : Bool) (h' : Option Nat), e = .returned (.bool cr) ∧ IsBlock w' c ({ s with pos := h' }.cells b) ∧ NSt w' (AddTo1 w w' Z) h' s.neg m' ∧ Only (fun k => Z k ∨ k = c) w w' := by
  obtain ⟨Sp, Sn, np, nn, Np, Nn, q1, q2, q3, q4, q5, q6, q7, q8⟩ := H
  refine (addTo_any c 7 (s.cells b) s.pos Sp np Np key inc w hk Hc rfl q1 (by omega) (fun k hS => hZ k (q6 k (.inl hS))) (fun x hx => by have := q7 key x hx; omega)).mono ?_
  rintro e w' ⟨h', S', n', rfl, r1, r2, r3, r4, r5⟩
  refine ⟨_, h', rfl, r1, ⟨S', Sn, n', nn, _, Nn, r2, q2.kept r5 (fun k hS hT => ?_), by omega, by omega, fun k hS' hSn => ?_, fun k hS => ?_, updN_le q7 inc hi m' hmm, fun k x hx => by have := q8 k x hx; omega⟩, r5.mono (fun k _ hT => hT.imp (fun hS => q6 k (.inl hS)) id)⟩
  · rcases hT with hT | hT
    · exact q5 k hT hS
    · exact (hZ k (q6 k (.inr hS))).1 hT
  · rcases r4 k hS' with h | h
    · exact q5 k h hSn
    · have := (hZ k (q6 k (.inr hSn))).2; omega
  · rcases hS with hS | hS
    · exact (r4 k hS).imp (fun h => q6 k (.inl h)) id
    · exact .inl (q6 k (.inr hS))
/-- addToBucket of the negative counters. -/
theorem addNeg (c b : Nat) (s : CSt) (Z : Nat → Prop) (m m' : Nat) (key inc : Int) (w : World) (hk : Wf key) (Hc : IsBlock w c (s.cells b)) (H : NSt w Z s.pos s.neg m) (hZ : ∀ k, Z k → k ≠ c ∧ k < w.heap.size) (hi : 0 ≤ inc) (hmm : (m : Int) + inc ≤ m') (hm' : (m' : Int) ≤ 4611686018427387904) (h1 : m + 1 ≤ m') :
    Calls Tryz.prog 271 #[.pointer (some ⟨c, 8, none⟩), .int .i64 key, .int .i64 inc] w fun e w' => ∃ (cr : Bool) (h' : Option Nat), e = .returned (.bool cr) ∧ IsBlock w' c ({ s with neg := h' }.cells b) ∧ NSt w' (AddTo1 w w' Z) s.pos h' m' ∧ Only (fun k => Z k ∨ k = c) w w' := by
  obtain ⟨Sp, Sn, np, nn, Np, Nn, q1, q2, q3, q4, q5, q6, q7, q8⟩ := H
  refine (addTo_any c 8 (s.cells b) s.neg Sn nn Nn key inc w hk Hc rfl q2 (by omega) (fun k hS => hZ k (q6 k (.inr hS))) (fun x hx => by have := q8 key x hx; omega)).mono ?_
  rintro e w' ⟨h', S', n', rfl, r1, r2, r3, r4, r5⟩
  refine ⟨_, h', rfl, r1, ⟨Sp, S', np, n', Np, _, q1.kept r5 (fun k hS hT => ?_), r2, by omega, by omega, fun k hSp hS' => ?_, fun k hS => ?_, fun k x hx => by have := q7 k x hx; omega, updN_le q8 inc hi m' hmm⟩, r5.mono (fun k _ hT => hT.imp (fun hS => q6 k (.inr hS)) id)⟩
  · rcases hT with hT | hT
    · exact q5 k hS hT
    · exact (hZ k (q6 k (.inl hS))).1 hT
  · rcases r4 k hS' with h | h
    · exact q5 k hSp h
    · have := (hZ k (q6 k (.inl hSp))).2; omega
  · rcases hS with hS | hS
    · exact .inl (q6 k (.inl hS))
    · exact (r4 k hS).imp (fun h => q6 k (.inr h)) id

theorem obs_end {w w1 wx w' : World} {c m : Nat} {pos neg : Option Nat} {Z : Nat → Prop} (hs : w1.heap.size = w.heap.size) (ho1 : Only (fun k => k = c) w w1) (q2 : NSt wx (AddTo1 w1 wx Z) pos neg m) (q3 : Only (fun k => Z k ∨ k = c) w1 wx) (hZ : ∀ k, Z k → k ≠ c ∧ k < w1.heap.size) (hc : c < w.heap.size)
    (ho2 : Only (fun k => k = c) wx w') : NSt w' (AddTo1 w w' Z) pos neg m ∧ Only (fun k => Z k ∨ k = c) w w' := by
  refine ⟨(q2.kept ho2 (fun k hk e => ?_)).wide (fun k hk => ?_), ((ho1.mono (fun k _ e => .inr e)).trans q3).trans (ho2.mono (fun k _ e => .inr e))⟩
  · rcases hk with hk | hk
    · exact (hZ k hk).1 e
    · omega
  · rcases hk with hk | hk
    · exact .inl hk
    · have := ho2.size
      exact .inr ⟨by omega, by omega⟩

set_option maxRecDepth 100000 in
set_option maxHeartbeats 1600000 in
theorem hcObserve_nat (c b i v m : Nat) (s : CSt) (Z : Nat → Prop) (w : World) (Hc : IsBlock w c (s.cells b)) (hi : ¬ i < s.bk.length) (hm : s.cnt + 1 < 2 ^ 62) (hz : s.zero + 1 < 2 ^ 62) (hnb : 0 ≤ s.nb ∧ s.nb + 1 < 4294967296) (hsch : s.sch = 0) (hv : Fl.isNaN v = false) (hv2 : v < 18446744073709551616)
    (HN : NSt w Z s.pos s.neg m) (hZ : ∀ k, Z k → k ≠ c ∧ k < w.heap.size) (hmm : m + 1 < 2 ^ 62) :
    Calls Tryz.prog 261 #[.pointer (some ⟨c, 0, none⟩), .float .f64 v, .int .i64 i, .bool true] w fun e w' => ∃ (r : Nat) (s' : CSt), e = .returned (.tuple #[]) ∧ NStep s s' v r ∧ IsBlock w' c (s'.cells b) ∧ NSt w' (AddTo1 w w' Z) s'.pos s'.neg (m + 1) ∧ Only (fun k => Z k ∨ k = c) w w' := by
  have c6 := Hc.cell (i := 6) rfl
  have c0 := Hc.cell (i := 0) rfl
  have f0 := Hc.free 0
  have f1 := Hc.free 1
  have hi1 : ¬ (i : Int) < (s.bk.length : Int) := by omega
  have hn1 := neq_self hv
  clear hi
  go_enter Tryz.func261, Tryz.ntmps261
  go_wp2_with fail
  refine (atomicAddFloat_any ⟨c, 0, none⟩ s.sum v _ ?_ ?_).mono ?_
  · go_simp
  · go_simp
  rintro e w' ⟨r, d, hadd, rfl, rfl⟩
  generalize hw1 : ((w.drewN d).setCell ⟨c, 0, none⟩ (.int .u64 (r : Nat))) = w1
  have hc1 : IsBlock w1 c ((s.cells b).set 0 (.int .u64 (r : Nat))) := by rw [← hw1]; exact (Hc.drewN d).set 0 _
  have hon1 : Only (fun k => k = c) w w1 := by rw [← hw1]; exact ((Only.refl (fun k => k = c) w).drewN d).setCell (p := ⟨c, 0, none⟩) (.inl rfl) _
  have HC1 : Hid (IsBlock w1 c ({ s with sum := r }.cells b)) := Lib.hid hc1
  have HN1 := Lib.hid (HN.kept hon1 (fun k hk e => (hZ k hk).1 e))
  have HZ1 : Hid (∀ k, Z k → k ≠ c ∧ k < w1.heap.size) := Lib.hid (fun k hk => by have := hZ k hk; have := hon1.size; omega)
  have HSZ1 : Hid (w1.heap.size = w.heap.size) := Lib.hid (by rw [← hw1]; simp [World.drewN])
  have HON1 := Lib.hid hon1
  have c4 : w1.cell? ⟨c, 4, none⟩ = some (.int .i32 0) := by rw [← hsch]; exact hc1.cell rfl
  have c3 : w1.cell? ⟨c, 3, none⟩ = some (.int .u64 s.zt) := hc1.cell rfl
  have HADD := Lib.hid hadd
  clear hw1 hc1 hon1 hadd c0 c6 f0 f1 Hc HN hZ
  go_upto_if 52 with go_in
  generalize hvi : (FloatKind.f64.format.order (bits .andNot .u64 (v : Int) 9223372036854775808).toNat 9218868437227405311 == some Ordering.gt) = vi
  have hclip : clip v = if vi = true then (if fgt v 9218868437227405311 = true then 9218868437227405311 else 18442240474082181119) else v := by
    unfold clip
    rw [show fgt (absW v) 9218868437227405311 = vi from hvi]
  have HCLIP := Lib.hid hclip
  have HVI := Lib.hid hvi
  clear hclip hvi
  go_cut [1, 12] from 53 to 54 (fun v1 v12 wx => v1 = .float .f64 (clip v) ∧ v12 = .bool vi ∧ wx = w1)
  case first =>
    cases vi with
    | true =>
      cases h2 : fgt v 9218868437227405311 with
      | true =>
        have e2 : (FloatKind.f64.format.order v 9218868437227405311 == some .gt) = true := h2
        go_wp2
        go_meet
        exact ⟨by rw [HCLIP.out, h2]; rfl, rfl, rfl⟩
      | false =>
        have e2 : (FloatKind.f64.format.order v 9218868437227405311 == some .gt) = false := h2
        go_wp2
        go_meet
        exact ⟨by rw [HCLIP.out, h2]; rfl, rfl, rfl⟩
    | false =>
      go_wp2
      go_meet
      exact ⟨by rw [HCLIP.out]; rfl, rfl, rfl⟩
  obtain ⟨rfl, rfl, hwc⟩ := hcut
  rw [hwc]
  clear hwc wc
  obtain ⟨fr, ex, hfx⟩ := frexp_any (absW (clip v)) (absW_lt (clip_lt hv2))
  have hx1 := hfx.1
  have hx2 := hfx.2.1
  have HFX := Lib.hid hfx
  clear hfx
  obtain ⟨vc, hvc⟩ : ∃ vc, vc = clip v := ⟨_, rfl⟩
  have HVC := Lib.hid hvc
  rw [← hvc] at HFX ⊢
  clear hvc
  go_upto_if 78 with (first | (go_at_call 175; refine (frexp_is (absW vc) fr ex HFX.out _).mono ?_; rintro e w' ⟨rfl, hw⟩; rw [hw]; clear hw w') | go_in)
  generalize hbf : (FloatKind.f64.format.order fr 4602678819172646912 == some Ordering.eq) = bf
  have HBF := Lib.hid hbf
  clear hbf
  go_cut [8] from 79 to 80 (fun v8 wx => v8 = .int .i64 (if bf = true then ex - 1 else ex) ∧ wx = w1)
  case first =>
    cases bf with
    | true =>
      go_wp2
      go_meet
      exact ⟨rfl, rfl⟩
    | false =>
      go_wp2
      go_meet
      exact ⟨rfl, rfl⟩
  obtain ⟨rfl, hwc⟩ := hcut
  rw [hwc]
  clear hwc wc
  obtain ⟨k0, hk0⟩ : ∃ k0, k0 = (if bf = true then ex - 1 else ex) := ⟨_, rfl⟩
  rw [← hk0]
  have hk1 : -1201 ≤ k0 := by rw [hk0]; split <;> omega
  have hk2 : k0 ≤ 1200 := by rw [hk0]; split <;> omega
  have HK0 := Lib.hid hk0
  clear hk0
  go_upto_if 91 with go_in
  go_cut [8] from 92 to 93 (fun v8 wx => v8 = .int .i64 (if vi = true then k0 + 1 else k0) ∧ wx = w1)
  case first =>
    cases vi with
    | true =>
      go_wp2
      go_meet
      exact ⟨rfl, rfl⟩
    | false =>
      go_wp2
      go_meet
      exact ⟨rfl, rfl⟩
  obtain ⟨rfl, hwc⟩ := hcut
  rw [hwc]
  clear hwc wc
  obtain ⟨k1, hk1'⟩ : ∃ k1, k1 = (if vi = true then k0 + 1 else k0) := ⟨_, rfl⟩
  rw [← hk1']
  have hk3 : -1201 ≤ k1 := by rw [hk1']; split <;> omega
  have hk4 : k1 ≤ 1201 := by rw [hk1']; split <;> omega
  have HK1 := Lib.hid hk1'
  clear hk1' hk1 hk2 hx1 hx2
  go_upto_if 98 with go_in
  generalize hb1 : (FloatKind.f64.format.order vc s.zt == some Ordering.gt) = b1
  have HB1 := Lib.hid hb1
  clear hb1
  have hwf : Wf k1 := by
    show (Lit.int .i64 k1).wf = true
    have e1 : IntKind.i64.min = -9223372036854775808 := by decide
    have e2 : IntKind.i64.max = 9223372036854775807 := by decide
    simp only [Lit.wf, Bool.and_eq_true, decide_eq_true_eq, e1, e2]
    omega
  have HWF := Lib.hid hwf
  clear hwf
  have HCL : Hid (c < w.heap.size) := Lib.hid (by have := HC1.out.lt; have := HSZ1.out; omega)
  have hcb := hm
  have hwr : (s.nb + 1) % 4294967296 = s.nb + 1 := by omega
  cases b1 with
  | true =>
    go_wp2_with fail
    refine (addPos c b { s with sum := r } Z m (m + 1) k1 1 w1 HWF.out HC1.out HN1.out HZ1.out (by omega) (by omega) (by omega) (by omega)).mono ?_
    rintro e w' ⟨cr, h', rfl, q1, q2, q3⟩
    have c1 : w'.cell? ⟨c, 1, none⟩ = some (.int .u64 s.cnt) := q1.cell rfl
    have f1 := q1.free 1
    have c5 : w'.cell? ⟨c, 5, none⟩ = some (.int .u32 s.nb) := q1.cell rfl
    have f5 := q1.free 5
    have Q1 := Lib.hid q1
    have Q2 := Lib.hid q2
    have Q3 := Lib.hid q3
    clear q1 q2 q3
    cases cr with
    | true =>
      have h1 := incr_u64 (a := ⟨c, 1, none⟩) (x := s.cnt) (w := w'.setCell ⟨c, 5, none⟩ (.int .u32 (s.nb + 1))) (by go_simp) (by go_simp) (by omega)
      go_wp2
      go_end0
      have ho := ((Only.refl (fun k => k = c) w').setCell (p := ⟨c, 5, none⟩) (.inl rfl) (.int .u32 (s.nb + 1))).setCell (p := ⟨c, 1, none⟩) (.inl rfl) (.int .u64 ((s.cnt : Int) + 1))
      obtain ⟨e1, e2⟩ := obs_end HSZ1.out HON1.out Q2.out Q3.out HZ1.out HCL.out ho
      exact ⟨r, { s with sum := r, pos := h', nb := s.nb + 1, cnt := s.cnt + 1 }, rfl, ⟨rfl, HADD.out, rfl, rfl, rfl, rfl, Nat.le_succ _, Int.le_refl _, (by show 0 ≤ s.nb + 1; omega)⟩, (Q1.out.set 5 _).set 1 _, e1, e2⟩
    | false =>
      have h1 := incr_u64 c1 f1 (by omega)
      go_wp2
      go_end0
      have ho := (Only.refl (fun k => k = c) w').setCell (p := ⟨c, 1, none⟩) (.inl rfl) (.int .u64 ((s.cnt : Int) + 1))
      obtain ⟨e1, e2⟩ := obs_end HSZ1.out HON1.out Q2.out Q3.out HZ1.out HCL.out ho
      exact ⟨r, { s with sum := r, pos := h', cnt := s.cnt + 1 }, rfl, ⟨rfl, HADD.out, rfl, rfl, rfl, rfl, Nat.le_succ _, (by show s.nb ≤ s.nb + 1; omega), hnb.1⟩, Q1.out.set 1 _, e1, e2⟩
  | false =>
    have c2 : w1.cell? ⟨c, 2, none⟩ = some (.int .u64 s.zero) := HC1.out.cell rfl
    have f2 := HC1.out.free 2
    have g1 : w1.cell? ⟨c, 1, none⟩ = some (.int .u64 s.cnt) := HC1.out.cell rfl
    have f1 := HC1.out.free 1
    have h2 := incr_u64 c2 f2 (by omega)
    have h1 := incr_u64 (a := ⟨c, 1, none⟩) (x := s.cnt) (w := w1.setCell ⟨c, 2, none⟩ (.int .u64 ((s.zero : Int) + 1))) (by go_simp) (by go_simp) (by omega)
    have hneg : ∀ w : World, (Op.unary .neg (.float .f64 s.zt)).run Tryz.prog w = .ok (.float .f64 (Op.negFloat .f64 s.zt)) w := fun w => rfl
    go_wp2_with fail
    · refine (addNeg c b { s with sum := r } Z m (m + 1) k1 1 w1 HWF.out HC1.out HN1.out HZ1.out (by omega) (by omega) (by omega) (by omega)).mono ?_
      rintro e w' ⟨cr, h', rfl, q1, q2, q3⟩
      have c1 : w'.cell? ⟨c, 1, none⟩ = some (.int .u64 s.cnt) := q1.cell rfl
      have f1 := q1.free 1
      have c5 : w'.cell? ⟨c, 5, none⟩ = some (.int .u32 s.nb) := q1.cell rfl
      have f5 := q1.free 5
      have Q1 := Lib.hid q1
      have Q2 := Lib.hid q2
      have Q3 := Lib.hid q3
      clear q1 q2 q3
      cases cr with
      | true =>
        have h1 := incr_u64 (a := ⟨c, 1, none⟩) (x := s.cnt) (w := w'.setCell ⟨c, 5, none⟩ (.int .u32 (s.nb + 1))) (by go_simp) (by go_simp) (by omega)
        go_wp2
        go_end0
        have ho := ((Only.refl (fun k => k = c) w').setCell (p := ⟨c, 5, none⟩) (.inl rfl) (.int .u32 (s.nb + 1))).setCell (p := ⟨c, 1, none⟩) (.inl rfl) (.int .u64 ((s.cnt : Int) + 1))
        obtain ⟨e1, e2⟩ := obs_end HSZ1.out HON1.out Q2.out Q3.out HZ1.out HCL.out ho
        exact ⟨r, { s with sum := r, neg := h', nb := s.nb + 1, cnt := s.cnt + 1 }, rfl, ⟨rfl, HADD.out, rfl, rfl, rfl, rfl, Nat.le_succ _, Int.le_refl _, (by show 0 ≤ s.nb + 1; omega)⟩, (Q1.out.set 5 _).set 1 _, e1, e2⟩
      | false =>
        have h1 := incr_u64 c1 f1 (by omega)
        go_wp2
        go_end0
        have ho := (Only.refl (fun k => k = c) w').setCell (p := ⟨c, 1, none⟩) (.inl rfl) (.int .u64 ((s.cnt : Int) + 1))
        obtain ⟨e1, e2⟩ := obs_end HSZ1.out HON1.out Q2.out Q3.out HZ1.out HCL.out ho
        exact ⟨r, { s with sum := r, neg := h', cnt := s.cnt + 1 }, rfl, ⟨rfl, HADD.out, rfl, rfl, rfl, rfl, Nat.le_succ _, (by show s.nb ≤ s.nb + 1; omega), hnb.1⟩, Q1.out.set 1 _, e1, e2⟩
    · have ho := ((Only.refl (fun k => k = c) w1).setCell (p := ⟨c, 2, none⟩) (.inl rfl) (.int .u64 ((s.zero : Int) + 1)))
      have ho2 := ((Only.refl (fun k => k = c) (w1.setCell ⟨c, 2, none⟩ (.int .u64 ((s.zero : Int) + 1)))).setCell (p := ⟨c, 1, none⟩) (.inl rfl) (.int .u64 ((s.cnt : Int) + 1)))
      go_end0
      obtain ⟨e1, e2⟩ := obs_end HSZ1.out HON1.out (((HN1.out.kept ho (fun k hk e => (HZ1.out k hk).1 e)).more (Nat.le_succ _)).wide (fun k hk => .inl hk)) (ho.mono (fun k _ e => .inr e)) HZ1.out HCL.out ho2
      exact ⟨r, { s with sum := r, zero := s.zero + 1, cnt := s.cnt + 1 }, rfl, ⟨rfl, HADD.out, rfl, rfl, rfl, rfl, Nat.le_refl _, (by show s.nb ≤ s.nb + 1; omega), hnb.1⟩, (HC1.out.set 2 _).set 1 _, e1, e2⟩
end Go.Proofs.YtebjclmbacmilaaGreatDoor

namespace Go.Proofs.YtebjclmbacmilaaGreatDoor
open Go.RowKit

/-- The histogram lies in w in this state; its counters lie in Z. -/
structure NHIn (w : World) (p : Pl) (s : HSt) (Z : Bool → Nat → Prop) (m : Nat) : Prop where
  hne : ∀ i, p.h ≠ p.c i
  cc : p.c false ≠ p.c true
  xo : p.ex ≠ p.h ∧ ∀ i, p.ex ≠ p.c i
  hh : IsBlock w p.h ((s.cells p).set 7 (.slice none 0 0))
  hc : ∀ i, IsBlock w (p.c i) ((s.c i).cells (p.b i))
  hx : IsBlock w p.ex [.nilIface]
  bk : ∀ i, (s.c i).bk = []
  bds : s.bounds = []
  sch : s.sch = 0
  csch : ∀ i, (s.c i).sch = 0
  maxB : s.maxB = 0
  nst : ∀ i, NSt w (Z i) (s.c i).pos (s.c i).neg m
  zz : ∀ i j k, i ≠ j → Z i k → ¬ Z j k
  zo : ∀ i k, Z i k → k ≠ p.h ∧ (∀ j, k ≠ p.c j) ∧ k ≠ p.ex ∧ k < w.heap.size
  nm : s.n ≤ m
  cm : ∀ i, (s.c i).cnt ≤ m ∧ (s.c i).zero ≤ m ∧ 0 ≤ (s.c i).nb ∧ (s.c i).nb ≤ m
/-- What an observation leaves as it was. -/
structure SameH (s s' : HSt) : Prop where
  hot : s'.hot = s.hot
  last : s'.last = s.last
  n : s'.n = s.n + 1
  ttl : s'.ttl = s.ttl
  nex : s'.nex = s.nex
def NOwn (p : Pl) (Z : Bool → Nat → Prop) (k : Nat) : Prop := k = p.h ∨ (∃ i, k = p.c i) ∨ ∃ i, Z i k

theorem NHIn.obs {w w1 w' : World} {p : Pl} {s : HSt} {Z : Bool → Nat → Prop} {m : Nat} (H : NHIn w p s Z m) (hw1 : w1 = w.setCell ⟨p.h, 0, none⟩ (.int .u64 (idxVal (s.n + 1) s.hot))) (s2 : CSt) (Z2 : Nat → Prop)
    (hc : IsBlock w' (p.c s.hot) (s2.cells (p.b s.hot))) (ho : Only (fun k => Z s.hot k ∨ k = p.c s.hot) w1 w') (hn : NSt w' Z2 s2.pos s2.neg (m + 1)) (hZ2 : ∀ k, Z2 k → Z s.hot k ∨ w.heap.size ≤ k ∧ k < w'.heap.size)
    (hbk : s2.bk = []) (hsch : s2.sch = 0) (hcm : s2.cnt ≤ m + 1 ∧ s2.zero ≤ m + 1 ∧ 0 ≤ s2.nb ∧ s2.nb ≤ m + 1) :
    ∃ s' Z', NHIn w' p s' Z' (m + 1) ∧ SameH s s' ∧ Only (NOwn p Z) w w' ∧ (∀ i k, Z' i k → Z i k ∨ w.heap.size ≤ k) := by
  have ho1 : Only (fun k => k = p.h) w w1 := by rw [hw1]; exact (Only.refl (fun k => k = p.h) w).setCell (p := ⟨p.h, 0, none⟩) (.inl rfl) _
  have hsz1 : w1.heap.size = w.heap.size := by rw [hw1]; simp
  have hoall : Only (NOwn p Z) w w' := (ho1.mono (fun k _ e => .inl e)).trans (ho.mono (fun k _ e => e.elim (fun e => .inr (.inr ⟨_, e⟩)) (fun e => .inr (.inl ⟨_, e⟩))))
  have hge : w.heap.size ≤ w'.heap.size := hoall.size
  have hlt : ∀ i, p.c i < w.heap.size := fun i => (H.hc i).lt
  have hhl := H.hh.lt
  have hxl := H.hx.lt
  refine ⟨{ s with n := s.n + 1, c := fun j => if j = s.hot then s2 else s.c j }, fun j => if j = s.hot then Z2 else Z j, ?_, ⟨rfl, rfl, rfl, rfl, rfl⟩, hoall, fun i k hk => ?_⟩
  · have hcold : ∀ j, j ≠ s.hot → IsBlock w' (p.c j) ((s.c j).cells (p.b j)) := fun j hj => by
      refine ho.isBlock (ho1.isBlock (H.hc j) (fun e => H.hne j e.symm)) (fun e => ?_)
      rcases e with e | e
      · exact (H.zo _ _ e).2.1 j rfl
      · have := H.cc
        cases j <;> cases hs : s.hot <;> simp_all
    refine { hne := H.hne, cc := H.cc, xo := H.xo, hh := ?_, hc := fun j => ?_, hx := ?_, bk := fun j => ?_, bds := H.bds, sch := H.sch, csch := fun j => ?_, maxB := H.maxB, nst := fun j => ?_, zz := fun i j k hij hk hk' => ?_, zo := fun j k hk => ?_, nm := by show s.n + 1 ≤ m + 1; have := H.nm; omega, cm := fun j => ?_ }
    · have h := H.hh.set 0 (.int .u64 (idxVal (s.n + 1) s.hot))
      rw [← hw1] at h
      refine ho.isBlock h (fun e => ?_)
      rcases e with e | e
      · exact (H.zo _ _ e).1 rfl
      · exact H.hne _ e
    · show IsBlock w' (p.c j) ((if j = s.hot then s2 else s.c j).cells (p.b j))
      by_cases e : j = s.hot
      · rw [if_pos e, e]; exact hc
      · rw [if_neg e]; exact hcold j e
    · refine ho.isBlock (ho1.isBlock H.hx H.xo.1) (fun e => ?_)
      rcases e with e | e
      · exact (H.zo _ _ e).2.2.1 rfl
      · exact H.xo.2 _ e
    · show (if j = s.hot then s2 else s.c j).bk = []
      split
      · exact hbk
      · exact H.bk j
    · show (if j = s.hot then s2 else s.c j).sch = 0
      split
      · exact hsch
      · exact H.csch j
    · show NSt w' (if j = s.hot then Z2 else Z j) (if j = s.hot then s2 else s.c j).pos (if j = s.hot then s2 else s.c j).neg (m + 1)
      by_cases e : j = s.hot
      · simp only [if_pos e]; exact hn
      · simp only [if_neg e]
        refine (((H.nst j).kept ho1 (fun k hk e' => (H.zo j k hk).1 e')).kept ho (fun k hk e' => ?_)).more (Nat.le_succ _)
        rcases e' with e' | e'
        · exact H.zz j s.hot k e hk e'
        · exact (H.zo j k hk).2.1 _ e'
    · have hb : ∀ i k, (if i = s.hot then Z2 else Z i) k → Z i k ∨ i = s.hot ∧ w.heap.size ≤ k := fun i k hk => by
        by_cases e : i = s.hot
        · rw [if_pos e] at hk
          rcases hZ2 k hk with h | h
          · rw [e]; exact .inl h
          · exact .inr ⟨e, h.1⟩
        · rw [if_neg e] at hk; exact .inl hk
      rcases hb i k hk with h | ⟨h, h2⟩ <;> rcases hb j k hk' with h' | ⟨h', h2'⟩
      · exact H.zz i j k hij h h'
      · have := (H.zo i k h).2.2.2; omega
      · have := (H.zo j k h').2.2.2; omega
      · exact hij (h.trans h'.symm)
    · have hb : Z j k ∨ w.heap.size ≤ k ∧ k < w'.heap.size := by
        by_cases e : j = s.hot
        · have hk2 : Z2 k := by
            have h : (if j = s.hot then Z2 else Z j) k := hk
            rwa [if_pos e] at h
          rw [e]; exact hZ2 k hk2
        · have hk2 : Z j k := by
            have h : (if j = s.hot then Z2 else Z j) k := hk
            rwa [if_neg e] at h
          exact .inl hk2
      rcases hb with hb | hb
      · have := H.zo j k hb; exact ⟨this.1, this.2.1, this.2.2.1, by omega⟩
      · exact ⟨by omega, fun i => by have := hlt i; omega, by omega, hb.2⟩
    · have key : ∀ t : CSt, t = s2 ∨ t = s.c j → t.cnt ≤ m + 1 ∧ t.zero ≤ m + 1 ∧ 0 ≤ t.nb ∧ t.nb ≤ ((m + 1 : Nat) : Int) := fun t ht => by
        rcases ht with rfl | rfl
        · exact hcm
        · obtain ⟨a, b, c, d⟩ := H.cm j; exact ⟨by omega, by omega, c, by omega⟩
      refine key (if j = s.hot then s2 else s.c j) ?_
      split
      · exact .inl rfl
      · exact .inr rfl
  · by_cases e : i = s.hot
    · have hk2 : Z2 k := by
        have h : (if i = s.hot then Z2 else Z i) k := hk
        rwa [if_pos e] at h
      rw [e]; exact (hZ2 k hk2).imp id (fun h => h.1)
    · have hk2 : Z i k := by
        have h : (if i = s.hot then Z2 else Z i) k := hk
        rwa [if_neg e] at h
      exact .inl hk2

set_option maxRecDepth 100000 in
theorem limit_none (h : Nat) (x : Value) (y : Nat) (i : Int) (w : World) (hc : w.cell? ⟨h, 13, none⟩ = some (.int .u32 0)) :
    Calls Tryz.prog 262 #[.pointer (some ⟨h, 0, none⟩), x, .float .f64 y, .int .i64 i] w fun e w' => e = .returned (.tuple #[]) ∧ w' = w := by
  go_enter Tryz.func262, Tryz.ntmps262
  go_wp2_with fail
  exact bodyPost_ret (v := .tuple #[]) (by simp [results, Tryz.results262, go_sem]) rfl ⟨rfl, rfl⟩

/-- What observe does. -/
def NPost (p : Pl) (s : HSt) (Z : Bool → Nat → Prop) (m : Nat) (w w' : World) : Prop := ∃ s' Z', NHIn w' p s' Z' (m + 1) ∧ SameH s s' ∧ Only (NOwn p Z) w w' ∧ ∀ i k, Z' i k → Z i k ∨ w.heap.size ≤ k

/-- The counts of an observation, with or without native buckets. -/
theorem nobs_counts (p : Pl) (s : HSt) (Z : Bool → Nat → Prop) (m v : Nat) (w : World) (H : NHIn w p s Z m) (hm : m + 1 < 2147483648) (hv2 : v < 18446744073709551616) :
    Calls Tryz.prog 261 #[.pointer (some ⟨p.c s.hot, 0, none⟩), .float .f64 v, .int .i64 0, .bool (!Fl.isNaN v)] (w.setCell ⟨p.h, 0, none⟩ (.int .u64 (idxVal (s.n + 1) s.hot))) fun e w' => e = .returned (.tuple #[]) ∧ NPost p s Z m w w' := by
  obtain ⟨w1, hw1⟩ : ∃ w1, w1 = w.setCell ⟨p.h, 0, none⟩ (.int .u64 (idxVal (s.n + 1) s.hot)) := ⟨_, rfl⟩
  rw [← hw1]
  have ho1 : Only (fun k => k = p.h) w w1 := by rw [hw1]; exact (Only.refl (fun k => k = p.h) w).setCell (p := ⟨p.h, 0, none⟩) (.inl rfl) _
  have hsz1 : w1.heap.size = w.heap.size := by rw [hw1]; simp
  have hc1 := ho1.isBlock (H.hc s.hot) (fun e => H.hne _ e.symm)
  have hn1 := (H.nst s.hot).kept ho1 (fun k hk e => (H.zo _ k hk).1 e)
  obtain ⟨b1, b2, b3, b4⟩ := H.cm s.hot
  have hbk : ¬ 0 < (s.c s.hot).bk.length := by rw [H.bk]; decide
  cases hv : Fl.isNaN v with
  | false =>
    refine (hcObserve_nat (p.c s.hot) (p.b s.hot) 0 v m (s.c s.hot) (Z s.hot) w1 hc1 hbk (by omega) (by omega) ⟨b3, by omega⟩ (H.csch _) hv hv2 hn1 (fun k hk => ⟨(H.zo _ k hk).2.1 _, by rw [hsz1]; exact (H.zo _ k hk).2.2.2⟩) (by omega)).mono ?_
    rintro e w' ⟨r, s2, rfl, st, q1, q2, q3⟩
    refine ⟨rfl, H.obs hw1 s2 _ q1 q3 q2 (fun k hk => by unfold AddTo1 at hk; rw [hsz1] at hk; exact hk) (by rw [st.bk, H.bk]) (by rw [st.sch, H.csch]) ?_⟩
    have h1 := st.cnt
    have h2 := st.zero
    have h3 := st.nb
    refine ⟨by omega, by omega, st.nb0, by omega⟩
  | true =>
    refine (hcObserve_out (p.c s.hot) (p.b s.hot) 0 v (s.c s.hot) w1 hc1 hbk (by omega)).mono ?_
    rintro e w' ⟨rfl, r, d, hadd, hw'⟩
    have ho : Only (fun k => k = p.c s.hot) w1 w' := by rw [hw']; exact (((Only.refl (fun k => k = p.c s.hot) w1).setCell (p := ⟨p.c s.hot, 0, none⟩) (.inl rfl) _).setCell (p := ⟨p.c s.hot, 1, none⟩) (.inl rfl) _).drewN d
    refine ⟨rfl, H.obs hw1 { s.c s.hot with sum := r, cnt := (s.c s.hot).cnt + 1 } (Z s.hot) ?_ (ho.mono (fun k _ e => .inr e)) ((hn1.kept ho (fun k hk e => (H.zo _ k hk).2.1 _ e)).more (Nat.le_succ _)) (fun k hk => .inl hk) (H.bk _) (H.csch _) ⟨by show (s.c s.hot).cnt + 1 ≤ m + 1; omega, by show (s.c s.hot).zero ≤ m + 1; omega, b3, by show (s.c s.hot).nb ≤ ((m + 1 : Nat) : Int); omega⟩⟩
    rw [hw']
    exact ((hc1.set 0 _).set 1 _).drewN d

theorem isNaN_no (v : Nat) (w : World) (h : Fl.isNaN v = false) : Calls Tryz.prog 173 #[.float .f64 v] w fun e w' => e = .returned (.bool false) ∧ w' = w := by
  have e1 := neq_self h
  clear h
  go_enter Tryz.func173, Tryz.ntmps173
  go_wp2
  go_ret
  exact ⟨rfl, rfl⟩
theorem isNaN_yes (v : Nat) (w : World) (h : Fl.isNaN v = true) : Calls Tryz.prog 173 #[.float .f64 v] w fun e w' => e = .returned (.bool true) ∧ w' = w := by
  have e1 := neq_nan h
  clear h
  go_enter Tryz.func173, Tryz.ntmps173
  go_wp2
  go_ret
  exact ⟨rfl, rfl⟩
theorem findBucket_nil (h v : Nat) (w : World) (c7 : w.cell? ⟨h, 7, none⟩ = some (.slice none 0 0)) : Calls Tryz.prog 242 #[.pointer (some ⟨h, 0, none⟩), .float .f64 v] w fun e w' => e = .returned (.int .i64 0) ∧ w' = w := by
  go_enter Tryz.func242, Tryz.ntmps242
  go_wp2
  go_ret
  exact ⟨rfl, rfl⟩

set_option maxRecDepth 100000 in
set_option maxHeartbeats 800000 in
/-- (*histogram).observe. -/
theorem nobserve (p : Pl) (s : HSt) (Z : Bool → Nat → Prop) (m v : Nat) (w : World) (H : NHIn w p s Z m) (hm : m + 1 < 2147483648) (hv2 : v < 18446744073709551616) :
    Calls Tryz.prog 241 #[.pointer (some ⟨p.h, 0, none⟩), .float .f64 v, .int .i64 0] w fun e w' => e = .returned (.tuple #[]) ∧ NPost p s Z m w w' := by
  have c10 : w.cell? ⟨p.h, 10, none⟩ = some (.int .i32 0) := by rw [← H.sch]; exact H.hh.cell rfl
  have c0 : w.cell? ⟨p.h, 0, none⟩ = some (.int .u64 (idxVal s.n s.hot)) := H.hh.cell rfl
  have f0 := H.hh.free 0
  have c5 : w.cell? ⟨p.h, 5, none⟩ = some (.pointer (some ⟨p.c false, 0, none⟩)) := H.hh.cell rfl
  have c6 : w.cell? ⟨p.h, 6, none⟩ = some (.pointer (some ⟨p.c true, 0, none⟩)) := H.hh.cell rfl
  have hn : s.n + 1 < 2 ^ 63 := by have := H.nm; omega
  have h1 := idxVal_incr c0 f0 hn
  have h2 := idxVal_div0 (s.n + 1) hn
  have h3 := idxVal_div1 (s.n + 1) hn
  have HC := Lib.hid (nobs_counts p s Z m v w H hm hv2)
  have hk13 : ∀ w', NPost p s Z m w w' → w'.cell? ⟨p.h, 13, none⟩ = some (.int .u32 0) := fun w' ⟨s', Z', h, _⟩ => by rw [← h.maxB]; exact h.hh.cell rfl
  have HK := Lib.hid hk13
  clear hk13 hn H hm
  cases hv : Fl.isNaN v with
  | false =>
    rw [hv] at HC
    have HV := Lib.hid hv
    clear hv
    cases hh : s.hot with
    | false =>
      rw [hh] at h1 c0 HC
      clear hh c6 h3
      go_enter Tryz.func241, Tryz.ntmps241
      go_wp2_with fail
      refine (isNaN_no v w HV.out).mono ?_
      rintro e w' ⟨rfl, hw⟩
      rw [hw]
      clear hw w'
      go_wp2_with fail
      refine HC.out.mono ?_
      rintro e w' ⟨rfl, hq⟩
      have HQ := Lib.hid hq
      have c13 := HK.out w' hq
      clear hq HC
      go_wp2_with fail
      refine (limit_none p.h _ v 0 w' c13).mono ?_
      rintro e w'' ⟨rfl, hw⟩
      rw [hw]
      clear hw w''
      go_wp2_with fail
      go_end0
      exact ⟨rfl, HQ.out⟩
    | true =>
      rw [hh] at h1 c0 HC
      clear hh c5 h2
      go_enter Tryz.func241, Tryz.ntmps241
      go_wp2_with fail
      refine (isNaN_no v w HV.out).mono ?_
      rintro e w' ⟨rfl, hw⟩
      rw [hw]
      clear hw w'
      go_wp2_with fail
      refine HC.out.mono ?_
      rintro e w' ⟨rfl, hq⟩
      have HQ := Lib.hid hq
      have c13 := HK.out w' hq
      clear hq HC
      go_wp2_with fail
      refine (limit_none p.h _ v 0 w' c13).mono ?_
      rintro e w'' ⟨rfl, hw⟩
      rw [hw]
      clear hw w''
      go_wp2_with fail
      go_end0
      exact ⟨rfl, HQ.out⟩
  | true =>
    rw [hv] at HC
    have HV := Lib.hid hv
    clear hv
    cases hh : s.hot with
    | false =>
      rw [hh] at h1 c0 HC
      clear hh c6 h3
      go_enter Tryz.func241, Tryz.ntmps241
      go_wp2_with fail
      refine (isNaN_yes v w HV.out).mono ?_
      rintro e w' ⟨rfl, hw⟩
      rw [hw]
      clear hw w'
      go_wp2_with fail
      refine HC.out.mono ?_
      rintro e w' ⟨rfl, hq⟩
      have HQ := Lib.hid hq
      have c13 := HK.out w' hq
      clear hq HC
      go_wp2_with fail
      go_end0
      exact ⟨rfl, HQ.out⟩
    | true =>
      rw [hh] at h1 c0 HC
      clear hh c5 h2
      go_enter Tryz.func241, Tryz.ntmps241
      go_wp2_with fail
      refine (isNaN_yes v w HV.out).mono ?_
      rintro e w' ⟨rfl, hw⟩
      rw [hw]
      clear hw w'
      go_wp2_with fail
      refine HC.out.mono ?_
      rintro e w' ⟨rfl, hq⟩
      have HQ := Lib.hid hq
      have c13 := HK.out w' hq
      clear hq HC
      go_wp2_with fail
      go_end0
      exact ⟨rfl, HQ.out⟩

set_option maxRecDepth 100000 in
/-- (*histogram).Observe. -/
theorem nobserveV (p : Pl) (s : HSt) (Z : Bool → Nat → Prop) (m v : Nat) (w : World) (H : NHIn w p s Z m) (hm : m + 1 < 2147483648) (hv2 : v < 18446744073709551616) :
    Calls Tryz.prog 237 #[.pointer (some ⟨p.h, 0, none⟩), .float .f64 v] w fun e w' => e = .returned (.tuple #[]) ∧ NPost p s Z m w w' := by
  have c7 : w.cell? ⟨p.h, 7, none⟩ = some (.slice none 0 0) := H.hh.cell rfl
  have HC := Lib.hid (nobserve p s Z m v w H hm hv2)
  clear H
  go_enter Tryz.func237, Tryz.ntmps237
  go_wp2_with fail
  refine (findBucket_nil p.h v w c7).mono ?_
  rintro e w' ⟨rfl, hw⟩
  rw [hw]
  clear hw w'
  go_wp2_with fail
  refine HC.out.mono ?_
  rintro e w' ⟨rfl, hq⟩
  have HQ := Lib.hid hq
  clear hq HC
  go_wp2_with fail
  go_end0
  exact ⟨rfl, HQ.out⟩
end Go.Proofs.YtebjclmbacmilaaGreatDoor
