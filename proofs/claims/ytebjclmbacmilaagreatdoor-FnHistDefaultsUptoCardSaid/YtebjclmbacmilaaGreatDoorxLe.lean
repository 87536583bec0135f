/- Plain laws of products: a positive number times a factor above 0 is never a NaN. No program. Conditions as typed. Contracts of ExponentialBuckets and of the thin package's Exponential. Conditions: as stated. Contract of FnExponential: it answers true, at every input. Condition: the separator variable reads as the text lays it. -/
import Derived.Test.YtebjclmbacmilaaGreatDoorxAp
import Derived.Test.YtebjclmbacmilaaGreatDoorLi
import Derived.Deep.QuietTactic
import Derived.BigQuiet
namespace Go.Proofs.YtebjclmbacmilaaGreatDoor
open Ieee Fl

/-- Neither a NaN nor a zero. -/
def NZ (x : Nat) : Prop := (∃ s, double.read x = .infinity s) ∨ ∃ s m e, double.read x = .number s m e ∧ m ≠ 0
def Fin (x : Nat) : Prop := ∃ s m e, double.read x = .number s m e ∧ m ≠ 0
theorem nz_nan {x : Nat} (h : NZ x) : isNaN x = false := by
  unfold Fl.isNaN
  rcases h with ⟨s, h⟩ | ⟨s, m, e, h, _⟩ <;> rw [h] <;> rfl
theorem read_word_inf (s : Bool) : double.read (double.word s (2047 * 2 ^ 52)) = .infinity s := by cases s <;> decide +kernel

/-- What can be multiplied by f again and again. -/
def Mulable (f x : Nat) : Prop := isNaN x = false ∧ (¬ Fin f → NZ x)

theorem mul_ok {f x : Nat} (hf : NZ f) (hx : Mulable f x) : ∃ r, double.mul x f = some r ∧ Mulable f r := by
  obtain ⟨hn, hz⟩ := hx
  unfold Format.mul
  by_cases hfin : Fin f
  · obtain ⟨t, n, j, hr, hn0⟩ := hfin
    rw [hr]
    have hm : ∀ r, isNaN r = false → Mulable f r := fun r h => ⟨h, fun h2 => absurd ⟨t, n, j, hr, hn0⟩ h2⟩
    cases hx : double.read x with
    | nan s g => unfold Fl.isNaN at hn; rw [hx] at hn; cases hn
    | infinity s =>
      refine ⟨double.word (s ^^ t) (2047 * 2 ^ 52), ?_, hm _ (word_nan _ _ (Nat.le_refl _))⟩
      simp only [Datum.product, if_neg hn0]; rfl
    | number s m i =>
      obtain ⟨q, hq, he⟩ := nearest_form (s ^^ t) (m * n) (i + j)
      refine ⟨double.nearest (s ^^ t) (m * n) (i + j), rfl, hm _ (by rw [he]; exact word_nan _ _ hq)⟩
  · have hi : ∃ t, double.read f = .infinity t := by
      rcases hf with h | h
      · exact h
      · exact absurd h hfin
    obtain ⟨t, hr⟩ := hi
    rw [hr]
    have hm : ∀ s, Mulable f (double.word s (2047 * 2 ^ 52)) := fun s => ⟨word_nan _ _ (Nat.le_refl _), fun _ => .inl ⟨s, read_word_inf s⟩⟩
    rcases hz hfin with ⟨s, h⟩ | ⟨s, m, e, h, hm0⟩
    · rw [h]; exact ⟨_, rfl, hm (s ^^ t)⟩
    · rw [h]
      refine ⟨double.word (s ^^ t) (2047 * 2 ^ 52), ?_, hm _⟩
      simp only [Datum.product, if_neg hm0]
      rw [Bool.xor_comm]; rfl

theorem nz_of_rung {x : Nat} (hn : isNaN x = false) (h : 0 < rung x) : NZ x := by
  have e1 : double.signWeight = 2 ^ 63 := rfl
  have e2 : double.binade = 2 ^ 52 := rfl
  have e4 : double.infRung = 2047 * 2 ^ 52 := rfl
  rw [isNaN_iff] at hn
  have hn' : ¬ 2047 * 2 ^ 52 < rung x := by simpa using hn
  unfold rung at h hn'
  unfold NZ Format.read
  simp only [e1, e2, e4]
  by_cases h1 : x % 2 ^ 63 < 2 ^ 52
  · right; exact ⟨_, _, _, if_pos h1, by omega⟩
  · by_cases h2 : x % 2 ^ 63 < 2047 * 2 ^ 52
    · right
      refine ⟨_, _, _, by rw [if_neg h1, if_pos h2], ?_⟩
      have : 0 < 2 ^ 52 := by decide
      omega
    · left
      have h3 : x % 2 ^ 63 = 2047 * 2 ^ 52 := by omega
      exact ⟨_, by rw [if_neg h1, if_neg h2, if_pos h3]⟩
theorem nz_of_gt {x y : Nat} (hy : 0 ≤ key y) (h : fgt x y = true) : NZ x := by
  obtain ⟨h1, _, h3⟩ := (fgt_iff x y).1 h
  refine nz_of_rung h1 ?_
  rcases Nat.eq_zero_or_pos (rung x) with h0 | h0
  · exfalso
    have hx0 : key x = 0 := by unfold Fl.key; rw [h0]; split <;> rfl
    omega
  · exact h0
theorem fgt_of_not {x y : Nat} (hx : isNaN x = false) (hy : isNaN y = false) (h : fle x y = false) : fgt x y = true := by
  rw [fgt_iff]
  refine ⟨hx, hy, ?_⟩
  rcases Int.lt_or_le (key y) (key x) with h1 | h1
  · exact h1
  · rw [(fle_iff x y).2 ⟨hx, hy, h1⟩] at h; cases h

/-- l begins with start, and each further one is the factor times the one before it; cur is the next one. -/
structure ExpOk (start f : Nat) (l : List Nat) (cur : Nat) : Prop where
  first : 0 < l.length → wd l 0 = start
  next : ∀ i, i + 1 < l.length → double.mul (wd l i) f = some (wd l (i + 1))
  cur0 : l.length = 0 → cur = start
  cur1 : 0 < l.length → double.mul (wd l (l.length - 1)) f = some cur
  nan : ∀ i, i < l.length → isNaN (wd l i) = false
  ok : Mulable f cur
theorem wd_app_lt {l : List Nat} {x i : Nat} (h : i < l.length) : wd (l ++ [x]) i = wd l i := by
  unfold wd
  rw [List.getD_eq_getElem?_getD, List.getD_eq_getElem?_getD, List.getElem?_append_left h]
theorem wd_app_eq {l : List Nat} {x : Nat} : wd (l ++ [x]) l.length = x := by
  unfold wd
  rw [List.getD_eq_getElem?_getD, List.getElem?_append_right (Nat.le_refl _)]
  simp
theorem ExpOk.snoc {start f : Nat} {l : List Nat} {cur r : Nat} (h : ExpOk start f l cur) (hr : double.mul cur f = some r) (hm : Mulable f r) : ExpOk start f (l ++ [cur]) r where
  first := fun _ => by
    rcases Nat.eq_zero_or_pos l.length with h0 | h0
    · have : l = [] := List.length_eq_zero_iff.1 h0
      subst this
      exact h.cur0 rfl
    · rw [wd_app_lt h0]; exact h.first h0
  next := fun i hi => by
    simp only [List.length_append, List.length_cons, List.length_nil] at hi
    rcases Nat.lt_or_ge (i + 1) l.length with h1 | h1
    · rw [wd_app_lt (by omega), wd_app_lt h1]; exact h.next i h1
    · have e : i + 1 = l.length := by omega
      rw [wd_app_lt (by omega), e, wd_app_eq]
      have := h.cur1 (by omega)
      rw [← e] at this
      exact this
  cur0 := fun h0 => by simp at h0
  cur1 := fun _ => by
    simp only [List.length_append, List.length_cons, List.length_nil, Nat.add_sub_cancel]
    rw [wd_app_eq]; exact hr
  nan := fun i hi => by
    simp only [List.length_append, List.length_cons, List.length_nil] at hi
    rcases Nat.lt_or_ge i l.length with h1 | h1
    · rw [wd_app_lt h1]; exact h.nan i h1
    · have e : i = l.length := by omega
      rw [e, wd_app_eq]; exact h.ok.1
  ok := hm
end Go.Proofs.YtebjclmbacmilaaGreatDoor

namespace Go.Proofs.YtebjclmbacmilaaGreatDoor
open Go.RowKit

theorem make_f64s (n : Nat) (hn : n ≤ 4611686018427) (w : World) :
    (Instr.makeSlice 22 (.int .i64 (n : Int)) (.int .i64 (n : Int))).run Tryz.prog w = .ok (.slice (some ⟨w.heap.size, 0, none⟩) n n) (w.alloc (.cells (List.replicate n (.float .f64 0)).toArray 25)) := by
  have h := run_make_row' (P := Tryz.prog) 22 25 (.float .f64 0) 8 Tryz.underlying22 info25 rfl .i64 .i64 n (by omega) (by omega) w
  rw [toList_made] at h; exact h

def ExpPost (start f n : Nat) (w w' : World) : Prop := ∃ (l : List Nat) (cur : Nat), l.length = n ∧ ExpOk start f l cur ∧ IsBlock w' w.heap.size (f64s l) ∧ Only (fun _ => False) w w'
set_option maxRecDepth 100000 in
set_option maxHeartbeats 1600000 in
theorem expBuckets_yes (start f n : Nat) (w : World) (hn : 0 < n) (hn2 : n ≤ 1000) (hs : fle start 0 = false) (hf : fle f 4607182418800017408 = false) (hz : NZ f) (hx : Mulable f start) :
    Calls Tryz.prog 59 #[.float .f64 start, .float .f64 f, .int .i64 n] w fun e w' => e = .returned (.slice (some ⟨w.heap.size, 0, none⟩) n n) ∧ ExpPost start f n w w' := by
  have hmk := make_f64s n (by omega) w
  have hn' : ¬ (n : Int) < 1 := by omega
  have hnb : (n : Int) ≤ 1000 := by omega
  have hs' : (FloatKind.f64.format.order start 0 == some .lt || FloatKind.f64.format.order start 0 == some .eq) = false := hs
  have hf' : (FloatKind.f64.format.order f 4607182418800017408 == some .lt || FloatKind.f64.format.order f 4607182418800017408 == some .eq) = false := hf
  have HZ := Lib.hid hz
  have HX := Lib.hid hx
  have HN := Lib.hid hn
  clear hz hx hn hn2 hs hf
  go_enter Tryz.func59, Tryz.ntmps59
  go_wp2_with fail
  refine (?_ : ∀ w1, w1 = w.alloc (.cells (Array.replicate n (.float .f64 0)) 25) → Code.wp _ _ _ _ w1) _ rfl
  intro w1 hw1
  have hn3 : ((List.replicate n (Value.float .f64 0)).toArray : Array Value) = Array.replicate n (.float .f64 0) := by simp
  have HB1 : Hid (IsBlock w1 w.heap.size (f64s [] ++ List.replicate (n - 0) (.float .f64 0))) := Lib.hid (by rw [hw1, ← hn3]; exact IsBlock.new w (List.replicate n (.float .f64 0)) 25)
  have HO1 : Hid (Only (fun _ => False) w w1) := Lib.hid (by rw [hw1]; exact (Only.refl _ w).alloc _)
  clear hw1 hmk hn3
  go_loopw [0, 22] (fun c i wr => ∃ (k cur : Nat) (l : List Nat), k ≤ n ∧ i = .int .i64 k ∧ c = .float .f64 cur ∧ l.length = k ∧ ExpOk start f l cur ∧ IsBlock wr w.heap.size (f64s l ++ List.replicate (n - k) (.float .f64 0)) ∧ Only (fun _ => False) w wr) (fun _ i _ => n - (intOf i).toNat)
  case atStart => exact ⟨0, start, [], Nat.zero_le _, rfl, rfl, rfl, ⟨fun h => absurd h (Nat.lt_irrefl _), fun i h => absurd h (Nat.not_lt_zero _), fun _ => rfl, fun h => absurd h (Nat.lt_irrefl _), fun i h => absurd h (Nat.not_lt_zero _), HX.out⟩, HB1.out, HO1.out⟩
  case round =>
    obtain ⟨k, cur, l, hk, rfl, rfl, hl, hE, hB, hO⟩ := hrel
    have HE := Lib.hid hE
    have HB := Lib.hid hB
    have HO := Lib.hid hO
    have HL := Lib.hid hl
    clear hE hB hO hl
    by_cases hkn : k < n
    · have hk0 : (0 : Int) ≤ (k : Int) := by omega
      have hk1 : (k : Int) < (n : Int) := by omega
      obtain ⟨r, hr, hm⟩ := mul_ok HZ.out HE.out.ok
      have ck : wr.cell? ⟨w.heap.size, k, none⟩ = some (.float .f64 0) := HB.out.cell (by
        rw [List.getElem?_append_right (by simp [f64s, HL.out]), List.getElem?_replicate]
        rw [if_pos (by simp [f64s, HL.out]; omega)])
      have fk := HB.out.free k
      have hrun := run_float_arith (P := Tryz.prog) (wr.setCell ⟨w.heap.size, k, none⟩ (.float .f64 cur)) .mul 25 .f64 cur f r hr
      have HN2 : Hid (IsBlock (wr.setCell ⟨w.heap.size, k, none⟩ (.float .f64 cur)) w.heap.size (f64s (l ++ [cur]) ++ List.replicate (n - (k + 1)) (.float .f64 0))) := Lib.hid (by
        have h := HB.out.set k (.float .f64 cur)
        have e : (f64s l ++ List.replicate (n - k) (Value.float .f64 0)).set k (.float .f64 cur) = f64s (l ++ [cur]) ++ List.replicate (n - (k + 1)) (.float .f64 0) := by
          rw [List.set_append_right _ _ (by simp [f64s, HL.out])]
          have h0 : k - (f64s l).length = 0 := by simp [f64s, HL.out]
          have h1 : n - k = (n - (k + 1)) + 1 := by omega
          rw [h0, h1, List.replicate_succ, List.set_cons_zero]
          simp [f64s]
        rw [e] at h; exact h)
      have HR := Lib.hid hr
      have HM := Lib.hid hm
      clear hr hm
      go_wp2_with fail
      go_roundw
      case rel => exact ⟨k + 1, r, l ++ [cur], hkn, by go_num, rfl, by simp [HL.out], HE.out.snoc HR.out HM.out, HN2.out, HO.out.setCell (.inr (Nat.le_refl _)) _⟩
      case measure => simp [intOf]; omega
    · have hke : k = n := by omega
      subst hke
      have hk1 : ¬ (k : Int) < (k : Int) := by omega
      go_wp2_with fail
      go_ret
      exact ⟨rfl, l, cur, HL.out, HE.out, by have h := HB.out; rw [Nat.sub_self, List.replicate_zero, List.append_nil] at h; exact h, HO.out⟩

set_option maxRecDepth 100000 in
theorem expBuckets_no (start f : Nat) (n : Int) (w : World) (h : n < 1 ∨ ¬ n < 1 ∧ (fle start 0 = true ∨ fle start 0 = false ∧ fle f 4607182418800017408 = true)) :
    Calls Tryz.prog 59 #[.float .f64 start, .float .f64 f, .int .i64 n] w fun e w' => (∃ t v, e = .panicked [{ v := .iface t v, recovered := false }]) ∧ w' = w := by
  rcases h with h | ⟨h, h2 | ⟨h2, h3⟩⟩
  · go_enter Tryz.func59, Tryz.ntmps59
    go_wp2_with fail
    exact ⟨rfl, ⟨_, _, rfl⟩, rfl⟩
  · have hs' : (FloatKind.f64.format.order start 0 == some .lt || FloatKind.f64.format.order start 0 == some .eq) = true := h2
    clear h2
    go_enter Tryz.func59, Tryz.ntmps59
    go_wp2_with fail
    exact ⟨rfl, ⟨_, _, rfl⟩, rfl⟩
  · have hs' : (FloatKind.f64.format.order start 0 == some .lt || FloatKind.f64.format.order start 0 == some .eq) = false := h2
    have hf' : (FloatKind.f64.format.order f 4607182418800017408 == some .lt || FloatKind.f64.format.order f 4607182418800017408 == some .eq) = true := h3
    clear h2 h3
    go_enter Tryz.func59, Tryz.ntmps59
    go_wp2_with fail
    exact ⟨rfl, ⟨_, _, rfl⟩, rfl⟩

/-- The literal of Exponential. -/
theorem exp1_yes (sb fb cb ob start f n : Nat) (w : World) (h0 : w.cell? ⟨sb, 0, none⟩ = some (.float .f64 start)) (h1 : w.cell? ⟨fb, 0, none⟩ = some (.float .f64 f)) (h2 : w.cell? ⟨cb, 0, none⟩ = some (.int .i64 n)) (ho : IsBlock w ob [.slice none 0 0])
    (hn : 0 < n) (hn2 : n ≤ 1000) (hs : fle start 0 = false) (hf : fle f 4607182418800017408 = false) (hz : NZ f) (hx : Mulable f start) :
    Calls Tryz.prog 58 #[.pointer (some ⟨sb, 0, none⟩), .pointer (some ⟨fb, 0, none⟩), .pointer (some ⟨cb, 0, none⟩), .pointer (some ⟨ob, 0, none⟩)] w fun e w' => e = .returned (.tuple #[]) ∧
      ∃ w1, ExpPost start f n w w1 ∧ w' = w1.setCell ⟨ob, 0, none⟩ (.slice (some ⟨w.heap.size, 0, none⟩) n n) := by
  have HC := Lib.hid (expBuckets_yes start f n w hn hn2 hs hf hz hx)
  have HO := Lib.hid ho
  clear hs hf hz hx ho hn hn2
  go_enter Tryz.func58, Tryz.ntmps58
  go_wp2_with fail
  refine HC.out.mono ?_
  rintro e w1 ⟨rfl, hp⟩
  have hon : Only (fun _ => False) w w1 := by obtain ⟨_, _, _, _, _, h⟩ := hp; exact h
  have hb := hon.isBlock HO.out id
  have c0 := hb.cell (i := 0) rfl
  have f0 := hb.free 0
  have HP := Lib.hid hp
  clear hp hon hb HC
  go_wp2_with fail
  go_end0
  exact ⟨rfl, w1, HP.out, rfl⟩
theorem exp1_no (sb fb cb ob start f : Nat) (n : Int) (w : World) (h0 : w.cell? ⟨sb, 0, none⟩ = some (.float .f64 start)) (h1 : w.cell? ⟨fb, 0, none⟩ = some (.float .f64 f)) (h2 : w.cell? ⟨cb, 0, none⟩ = some (.int .i64 n))
    (h : n < 1 ∨ ¬ n < 1 ∧ (fle start 0 = true ∨ fle start 0 = false ∧ fle f 4607182418800017408 = true)) :
    Calls Tryz.prog 58 #[.pointer (some ⟨sb, 0, none⟩), .pointer (some ⟨fb, 0, none⟩), .pointer (some ⟨cb, 0, none⟩), .pointer (some ⟨ob, 0, none⟩)] w fun e w' => (∃ t v, e = .panicked [{ v := .iface t v, recovered := false }]) ∧ w' = w := by
  have HC := Lib.hid (expBuckets_no start f n w h)
  clear h
  go_enter Tryz.func58, Tryz.ntmps58
  go_wp2_with fail
  refine HC.out.mono ?_
  rintro e w1 ⟨⟨t, v, rfl⟩, rfl⟩
  go_wp2_with fail
  exact ⟨rfl, ⟨_, _, rfl⟩, rfl⟩

set_option maxRecDepth 100000 in
theorem tryExp_yes (sb fb cb ob start f n : Nat) (W : World) (h0 : IsBlock W sb [.float .f64 start]) (h1 : IsBlock W fb [.float .f64 f]) (h2 : IsBlock W cb [.int .i64 n]) (ho : IsBlock W ob [.slice none 0 0])
    (hn : 0 < n) (hn2 : n ≤ 1000) (hs : fle start 0 = false) (hf : fle f 4607182418800017408 = false) (hz : NZ f) (hx : Mulable f start) :
    Calls Tryz.prog 53 #[.func (.func 58) #[] #[.pointer (some ⟨sb, 0, none⟩), .pointer (some ⟨fb, 0, none⟩), .pointer (some ⟨cb, 0, none⟩), .pointer (some ⟨ob, 0, none⟩)]] W fun e w' => e = .returned (.bool true) ∧
      ∃ (g : Nat) (l : List Nat) (cur : Nat), l.length = n ∧ ExpOk start f l cur ∧ IsBlock w' g (f64s l) ∧ IsBlock w' ob [.slice (some ⟨g, 0, none⟩) n n] ∧ Only (fun k => k = ob) W w' := by
  have hsz : (W.alloc (.cells #[.bool false] 4)).heap.size = W.heap.size + 1 := World.size_alloc _ _
  have hol := ho.lt
  refine (doorTry_ok 58 _ W (fun w1 => ∃ (l : List Nat) (cur : Nat), l.length = n ∧ ExpOk start f l cur ∧ IsBlock w1 (W.heap.size + 1) (f64s l) ∧ IsBlock w1 ob [.slice (some ⟨W.heap.size + 1, 0, none⟩) n n] ∧ Only (fun k => k = ob) (W.alloc (.cells #[.bool false] 4)) w1) (fun _ => rfl) ?_).mono ?_
  · refine (exp1_yes sb fb cb ob start f n _ ((h0.alloc _).cell rfl) ((h1.alloc _).cell rfl) ((h2.alloc _).cell rfl) (ho.alloc _) hn hn2 hs hf hz hx).mono ?_
    rintro e w1 ⟨rfl, w2, ⟨l, cur, hl, hE, hB, hO⟩, rfl⟩
    rw [hsz] at hB ⊢
    refine ⟨rfl, (hO.isBlock (IsBlock.new W [.bool false] 4) id).set_ne (a := ⟨ob, 0, none⟩) (by show W.heap.size ≠ ob; omega) _, l, cur, hl, hE, hB.set_ne (a := ⟨ob, 0, none⟩) (by show W.heap.size + 1 ≠ ob; omega) _, (hO.isBlock (ho.alloc _) id).set 0 _, (hO.mono (T := fun k => k = ob) (fun _ _ h => h.elim)).setCell (p := ⟨ob, 0, none⟩) (.inl rfl) _⟩
  · rintro e w' ⟨rfl, w1, ⟨l, cur, hl, hE, hB, hv, hon⟩, rfl⟩
    refine ⟨rfl, W.heap.size + 1, l, cur, hl, hE, hB.set_ne (a := ⟨W.heap.size, 0, none⟩) (by show W.heap.size + 1 ≠ W.heap.size; omega) _, hv.set_ne (a := ⟨W.heap.size, 0, none⟩) (by show ob ≠ W.heap.size; omega) _, ?_⟩
    exact ((Only.refl (fun k => k = ob) W).alloc _ |>.trans hon).setCell (p := ⟨W.heap.size, 0, none⟩) (.inr (Nat.le_refl _)) _
set_option maxRecDepth 100000 in
theorem tryExp_no (sb fb cb ob start f : Nat) (n : Int) (W : World) (h0 : IsBlock W sb [.float .f64 start]) (h1 : IsBlock W fb [.float .f64 f]) (h2 : IsBlock W cb [.int .i64 n]) (ho : IsBlock W ob [.slice none 0 0])
    (h : n < 1 ∨ ¬ n < 1 ∧ (fle start 0 = true ∨ fle start 0 = false ∧ fle f 4607182418800017408 = true)) :
    Calls Tryz.prog 53 #[.func (.func 58) #[] #[.pointer (some ⟨sb, 0, none⟩), .pointer (some ⟨fb, 0, none⟩), .pointer (some ⟨cb, 0, none⟩), .pointer (some ⟨ob, 0, none⟩)]] W fun e w' => e = .returned (.bool false) ∧ IsBlock w' ob [.slice none 0 0] ∧ Only (fun _ => False) W w' := by
  have hol := ho.lt
  refine (doorTry_no 58 _ W (fun w1 => w1 = W.alloc (.cells #[.bool false] 4)) (fun _ => rfl) ?_).mono ?_
  · refine (exp1_no sb fb cb ob start f n _ ((h0.alloc _).cell rfl) ((h1.alloc _).cell rfl) ((h2.alloc _).cell rfl) h).mono ?_
    rintro e w1 ⟨hp, rfl⟩
    exact ⟨hp, IsBlock.new W [.bool false] 4, rfl⟩
  · rintro e w' ⟨rfl, w1, rfl, rfl⟩
    exact ⟨rfl, (ho.alloc _).set_ne (a := ⟨W.heap.size, 0, none⟩) (by show ob ≠ W.heap.size; omega) _, ((Only.refl _ W).alloc _).setCell (p := ⟨W.heap.size, 0, none⟩) (.inr (Nat.le_refl _)) _⟩

set_option maxRecDepth 100000 in
theorem exp_yes (start f n : Nat) (w : World) (hn : 0 < n) (hn2 : n ≤ 1000) (hs : fle start 0 = false) (hf : fle f 4607182418800017408 = false) (hz : NZ f) (hx : Mulable f start) :
    Calls Tryz.prog 35 #[.float .f64 start, .float .f64 f, .int .i64 n] w fun e w' => ∃ (g : Nat) (l : List Nat) (cur : Nat), e = .returned (.tuple #[.slice (some ⟨g, 0, none⟩) n n, .bool true]) ∧ l.length = n ∧ ExpOk start f l cur ∧ IsBlock w' g (f64s l) ∧ Only (fun _ => False) w w' := by
  have hmf : ∀ (fn : Fn) (first cap : Array Value) (w : World), (Instr.makeFunc fn first cap).run Tryz.prog w = .ok (.func fn first cap) w := fun _ _ _ _ => rfl
  have hle : (n : Int) ≤ 100000 := by omega
  have HH : Hid (0 < n ∧ n ≤ 1000 ∧ fle start 0 = false ∧ fle f 4607182418800017408 = false ∧ NZ f ∧ Mulable f start) := Lib.hid ⟨hn, hn2, hs, hf, hz, hx⟩
  clear hn hn2 hs hf hz hx
  go_enter Tryz.func35, Tryz.ntmps35
  go_wp2_with fail
  refine (?_ : ∀ w4, w4 = (((w.alloc (.cells #[.float .f64 start] 25)).alloc (.cells #[.float .f64 f] 25)).alloc (.cells #[.int .i64 n] 3)).alloc (.cells #[.slice none 0 0] 22) → Calls Tryz.prog 53 _ w4 _) _ rfl
  intro w4 hw4
  have b0 : IsBlock w4 w.heap.size [.float .f64 start] := by rw [hw4]; exact (((IsBlock.new w [.float .f64 start] 25).alloc _).alloc _).alloc _
  have b1 : IsBlock w4 (w.heap.size + 1) [.float .f64 f] := by rw [hw4]; exact ((blk_new _ [.float .f64 f] 25 _ (by simp)).alloc _).alloc _
  have b2 : IsBlock w4 (w.heap.size + 1 + 1) [.int .i64 n] := by rw [hw4]; exact (blk_new _ [.int .i64 n] 3 _ (by simp)).alloc _
  have b3 : IsBlock w4 (w.heap.size + 1 + 1 + 1) [.slice none 0 0] := by rw [hw4]; exact blk_new _ [.slice none 0 0] 22 _ (by simp)
  have HO : Hid (Only (fun _ => False) w w4) := Lib.hid (by rw [hw4]; exact ((((Only.refl _ w).alloc _).alloc _).alloc _).alloc _)
  obtain ⟨hn, hn2, hs, hf, hz, hx⟩ := HH.out
  have HT := Lib.hid (tryExp_yes _ _ _ _ start f n w4 b0 b1 b2 b3 hn hn2 hs hf hz hx)
  clear hw4 b0 b1 b2 b3 hn hn2 hs hf hz hx HH
  refine HT.out.mono ?_
  rintro e w5 ⟨rfl, g, l, cur, hl, hE, hB, hv, hon⟩
  have cv := hv.cell (i := 0) rfl
  have HF : Hid (l.length = n ∧ ExpOk start f l cur ∧ IsBlock w5 g (f64s l) ∧ Only (fun _ => False) w w5) := Lib.hid ⟨hl, hE, hB, Only.widen HO.out hon (fun j hj => by omega)⟩
  clear hl hE hB hv hon HT HO
  go_wp2_with fail
  go_ret2
  exact ⟨g, l, cur, rfl, HF.out⟩
set_option maxRecDepth 100000 in
theorem exp_no (start f : Nat) (n : Int) (w : World) (h : n < 1 ∨ ¬ n < 1 ∧ (fle start 0 = true ∨ fle start 0 = false ∧ fle f 4607182418800017408 = true)) (hle : n ≤ 100000) :
    Calls Tryz.prog 35 #[.float .f64 start, .float .f64 f, .int .i64 n] w fun e w' => e = .returned (.tuple #[.slice none 0 0, .bool false]) ∧ Only (fun _ => False) w w' := by
  have hmf : ∀ (fn : Fn) (first cap : Array Value) (w : World), (Instr.makeFunc fn first cap).run Tryz.prog w = .ok (.func fn first cap) w := fun _ _ _ _ => rfl
  have HH := Lib.hid h
  clear h
  go_enter Tryz.func35, Tryz.ntmps35
  go_wp2_with fail
  refine (?_ : ∀ w4, w4 = (((w.alloc (.cells #[.float .f64 start] 25)).alloc (.cells #[.float .f64 f] 25)).alloc (.cells #[.int .i64 n] 3)).alloc (.cells #[.slice none 0 0] 22) → Calls Tryz.prog 53 _ w4 _) _ rfl
  intro w4 hw4
  have b0 : IsBlock w4 w.heap.size [.float .f64 start] := by rw [hw4]; exact (((IsBlock.new w [.float .f64 start] 25).alloc _).alloc _).alloc _
  have b1 : IsBlock w4 (w.heap.size + 1) [.float .f64 f] := by rw [hw4]; exact ((blk_new _ [.float .f64 f] 25 _ (by simp)).alloc _).alloc _
  have b2 : IsBlock w4 (w.heap.size + 1 + 1) [.int .i64 n] := by rw [hw4]; exact (blk_new _ [.int .i64 n] 3 _ (by simp)).alloc _
  have b3 : IsBlock w4 (w.heap.size + 1 + 1 + 1) [.slice none 0 0] := by rw [hw4]; exact blk_new _ [.slice none 0 0] 22 _ (by simp)
  have HO : Hid (Only (fun _ => False) w w4) := Lib.hid (by rw [hw4]; exact ((((Only.refl _ w).alloc _).alloc _).alloc _).alloc _)
  have HT := Lib.hid (tryExp_no _ _ _ _ start f n w4 b0 b1 b2 b3 (HH.out.imp id (fun ⟨a, b⟩ => ⟨by omega, b⟩)))
  clear hw4 b0 b1 b2 b3 HH
  refine HT.out.mono ?_
  rintro e w5 ⟨rfl, hv, hon⟩
  have cv := hv.cell (i := 0) rfl
  have HF := Lib.hid (HO.out.trans hon)
  clear hv hon HT HO
  go_wp2_with fail
  go_ret2
  exact ⟨rfl, HF.out⟩
end Go.Proofs.YtebjclmbacmilaaGreatDoor

namespace Go.Proofs.YtebjclmbacmilaaGreatDoor
open Go.RowKit

theorem sameNum_self (x : Nat) (w : World) (hx : Fl.isNaN x = false) :
    Calls Tryz.prog 23 #[.float .f64 x, .float .f64 x] w fun e w' => e = .returned (.bool true) ∧ w' = w := by
  have h : (FloatKind.f64.format.order x x == some .eq) = true := by
    have := (feq_iff x x).2 ⟨hx, hx, rfl⟩
    exact this
  go_enter Tryz.func23, Tryz.ntmps23
  go_wp2
  all_goals
    go_ret
    exact ⟨rfl, rfl⟩

theorem neq_self {x : Nat} (hx : Fl.isNaN x = false) : (FloatKind.f64.format.order x x != some Ordering.eq) = false := by
  have h : (FloatKind.f64.format.order x x == some .eq) = true := (feq_iff x x).2 ⟨hx, hx, rfl⟩
  simp only [bne, h]; rfl

set_option maxRecDepth 100000 in
set_option maxHeartbeats 1600000 in
theorem fnExp_yes (start f n : Nat) (gs : Addr) (gc : Nat) (w : World) (hg : w.cell? ⟨2, 0, none⟩ = some (.slice (some gs) 1 gc)) (hgs : w.cell? gs = some (.int .u8 255))
    (hs0 : Fl.isNaN start = false) (hf0 : Fl.isNaN f = false)
    (hn : 0 < n) (hn2 : n ≤ 1000) (hs : fle start 0 = false) (hf : fle f 4607182418800017408 = false) :
    Calls Tryz.prog 12 #[.float .f64 start, .float .f64 f, .int .i64 n] w fun e w' => e = .returned (.bool true) ∧ Only (fun _ => False) w w' := by
  have hz : NZ f := nz_of_gt (y := 4607182418800017408) (by decide +kernel) (fgt_of_not hf0 (by decide +kernel) hf)
  have hx : Mulable f start := ⟨hs0, fun _ => nz_of_gt (y := 0) (by decide +kernel) (fgt_of_not hs0 (by decide +kernel) hs)⟩
  have HE := Lib.hid (exp_yes start f n w hn hn2 hs hf hz hx)
  have e1 := neq_self hs0
  have e2 := neq_self hf0
  have hs' : (FloatKind.f64.format.order start 0 == some .lt || FloatKind.f64.format.order start 0 == some .eq) = false := hs
  have hf' : (FloatKind.f64.format.order f 4607182418800017408 == some .lt || FloatKind.f64.format.order f 4607182418800017408 == some .eq) = false := hf
  have hn' : ¬ (1000 : Int) < (n : Int) := by omega
  have hn1 : ¬ (n : Int) < 1 := by omega
  have HG := Lib.hid hg
  have HGS := Lib.hid hgs
  clear hg hgs hn hn2 hs hf hz hx
  go_enter Tryz.func12, Tryz.ntmps12
  go_wp2_with fail
  refine HE.out.mono ?_
  rintro e w1 ⟨g, l, cur, rfl, hl, hE, hB, hO⟩
  have HL := Lib.hid hl
  have HEE := Lib.hid hE
  have HB := Lib.hid hB
  have HO := Lib.hid hO
  clear hl hE hB hO HE
  go_wp2_with fail
  go_loopw [9] (fun i wr => ∃ (k d : Nat), k ≤ n ∧ i = .int .i64 k ∧ wr = w1.drewN d) (fun i _ => n - (intOf i).toNat)
  case atStart => exact ⟨0, 0, Nat.zero_le _, rfl, rfl⟩
  case round =>
    obtain ⟨k, d, hk, rfl, hwr⟩ := hrel
    have hcell : ∀ i, i < n → wr.cell? ⟨g, i, none⟩ = some (.float .f64 (wd l i)) := fun i hi => by
      have h := HB.out.cell (i := i) (v := .float .f64 (wd l i)) (by have := getD_f64s (l := l) (x := []) (i := i) (by rw [HL.out]; exact hi); rwa [List.append_nil] at this)
      rw [hwr]; exact h
    by_cases hkn : k < n
    · rcases Nat.eq_zero_or_pos k with h0 | h0
      · subst h0
        have hc := hcell 0 hkn
        rw [HEE.out.first (by rw [HL.out]; exact hkn)] at hc
        have hnn : (0 : Int) < (n : Int) := by omega
        have HWR := Lib.hid hwr
        clear hcell hwr hk
        go_wp2_with fail
        go_quiet (fail)
        go_wp2_with fail
        go_roundw
        case rel => exact ⟨1, d + nq, by omega, rfl, by rw [HWR.out]; simp [World.drewN, Nat.add_assoc]⟩
        case measure => simp [intOf]; omega
      · obtain ⟨j, rfl⟩ : ∃ j, k = j + 1 := ⟨k - 1, by omega⟩
        have hc1 := hcell (j + 1) hkn
        have hc0 := hcell j (by omega)
        have hmul := HEE.out.next j (by rw [HL.out]; omega)
        have hnan := HEE.out.nan (j + 1) (by rw [HL.out]; omega)
        have hrun : ∀ w, (binOp .mul 25 (.float .f64 (wd l j)) (.float .f64 f)).run Tryz.prog w = .ok (.float .f64 (wd l (j + 1))) w := fun w => run_float_arith w .mul 25 .f64 _ _ _ hmul
        have hj1 : (j : Int) + 1 < (n : Int) := by omega
        have hj0 : (j : Int) < (n : Int) := by omega
        have hjp : (0 : Int) ≤ (j : Int) := by omega
        have hjq : (0 : Int) ≤ (j : Int) + 1 := by omega
        have hjr : (0 : Int) < (j : Int) + 1 := by omega
        have hje : (((j : Int) + 1) == 0) = false := by rw [beq_eq_false_iff_ne]; omega
        have HWR := Lib.hid hwr
        clear hcell hwr hk hmul
        go_wp2_with fail
        go_quiet ((go_at_call 23; exact Calls.quiet_of_same (sameNum_self _ _ hnan)))
        go_wp2_with fail
        go_roundw
        case rel => exact ⟨j + 1 + 1, d + nq, by omega, by go_num, by rw [HWR.out]; simp [World.drewN, Nat.add_assoc]⟩
        case measure => simp [intOf]; omega
    · have hke : k = n := by omega
      subst hke
      have hk1 : ¬ (k : Int) < (k : Int) := by omega
      have hO1 : Only (fun _ => False) w wr := by rw [hwr]; exact HO.out.drewN d
      have HLV := Lib.hid (histLives_any gs gc wr (hO1.cell HG.out id) (hO1.cell HGS.out id))
      have HO1 := Lib.hid hO1
      clear hcell hwr hO1
      go_wp2_with fail
      refine HLV.out.mono ?_
      rintro e w3 ⟨rfl, h3⟩
      have H3 := Lib.hid h3
      clear h3
      go_wp2_with fail
      go_ret
      exact ⟨rfl, HO1.out.trans H3.out⟩

theorem neq_nan {x : Nat} (hx : Fl.isNaN x = true) : (FloatKind.f64.format.order x x != some Ordering.eq) = true := by
  rw [ord_eq, hx]; rfl

set_option maxRecDepth 100000 in
set_option maxHeartbeats 1600000 in
theorem fnExp_out (start f : Nat) (c : Int) (gs : Addr) (gc : Nat) (w : World) (hg : w.cell? ⟨2, 0, none⟩ = some (.slice (some gs) 1 gc)) (hgs : w.cell? gs = some (.int .u8 255))
    (h : 1000 < c ∨ c ≤ 1000 ∧ (Fl.isNaN start = true ∨ Fl.isNaN start = false ∧ Fl.isNaN f = true)) :
    Calls Tryz.prog 12 #[.float .f64 start, .float .f64 f, .int .i64 c] w fun e w' => e = .returned (.bool true) ∧ Only (fun _ => False) w w' := by
  have HLV := Lib.hid (histLives_any gs gc w hg hgs)
  clear hg hgs
  rcases h with h | ⟨h, h2 | ⟨h2, h3⟩⟩
  · go_enter Tryz.func12, Tryz.ntmps12
    go_wp2_with fail
    refine HLV.out.mono ?_
    rintro e w3 ⟨rfl, h3⟩
    have H3 := Lib.hid h3
    clear h3
    go_wp2_with fail
    go_ret
    exact ⟨rfl, H3.out⟩
  · have h' : ¬ 1000 < c := by omega
    have e1 := neq_nan h2
    clear h h2
    go_enter Tryz.func12, Tryz.ntmps12
    go_wp2_with fail
    refine HLV.out.mono ?_
    rintro e w3 ⟨rfl, h3⟩
    have H3 := Lib.hid h3
    clear h3
    go_wp2_with fail
    go_ret
    exact ⟨rfl, H3.out⟩
  · have h' : ¬ 1000 < c := by omega
    have e1 := neq_self h2
    have e2 := neq_nan h3
    clear h h2 h3
    go_enter Tryz.func12, Tryz.ntmps12
    go_wp2_with fail
    refine HLV.out.mono ?_
    rintro e w3 ⟨rfl, h3⟩
    have H3 := Lib.hid h3
    clear h3
    go_wp2_with fail
    go_ret
    exact ⟨rfl, H3.out⟩

set_option maxRecDepth 100000 in
set_option maxHeartbeats 1600000 in
theorem fnExp_no (start f : Nat) (c : Int) (gs : Addr) (gc : Nat) (w : World) (hg : w.cell? ⟨2, 0, none⟩ = some (.slice (some gs) 1 gc)) (hgs : w.cell? gs = some (.int .u8 255))
    (hs0 : Fl.isNaN start = false) (hf0 : Fl.isNaN f = false) (hc : c ≤ 1000) (h : c < 1 ∨ ¬ c < 1 ∧ (fle start 0 = true ∨ fle start 0 = false ∧ fle f 4607182418800017408 = true)) :
    Calls Tryz.prog 12 #[.float .f64 start, .float .f64 f, .int .i64 c] w fun e w' => e = .returned (.bool true) ∧ Only (fun _ => False) w w' := by
  have HE := Lib.hid (exp_no start f c w h (by omega))
  have e1 := neq_self hs0
  have e2 := neq_self hf0
  have hc' : ¬ 1000 < c := by omega
  have HG := Lib.hid hg
  have HGS := Lib.hid hgs
  clear hg hgs hc hs0 hf0
  rcases h with h | ⟨h, h2 | ⟨h2, h3⟩⟩
  · go_enter Tryz.func12, Tryz.ntmps12
    go_wp2_with fail
    refine HE.out.mono ?_
    rintro e w1 ⟨rfl, h1⟩
    have HLV := Lib.hid (histLives_any gs gc w1 (h1.cell HG.out id) (h1.cell HGS.out id))
    have H1 := Lib.hid h1
    clear h1
    go_wp2_with fail
    refine HLV.out.mono ?_
    rintro e w3 ⟨rfl, h3⟩
    have H3 := Lib.hid (H1.out.trans h3)
    clear h3
    go_wp2_with fail
    go_ret
    exact ⟨rfl, H3.out⟩
  · have hs' : (FloatKind.f64.format.order start 0 == some .lt || FloatKind.f64.format.order start 0 == some .eq) = true := h2
    clear h2
    go_enter Tryz.func12, Tryz.ntmps12
    go_wp2_with fail
    refine HE.out.mono ?_
    rintro e w1 ⟨rfl, h1⟩
    have HLV := Lib.hid (histLives_any gs gc w1 (h1.cell HG.out id) (h1.cell HGS.out id))
    have H1 := Lib.hid h1
    clear h1
    go_wp2_with fail
    refine HLV.out.mono ?_
    rintro e w3 ⟨rfl, h3⟩
    have H3 := Lib.hid (H1.out.trans h3)
    clear h3
    go_wp2_with fail
    go_ret
    exact ⟨rfl, H3.out⟩
  · have hs' : (FloatKind.f64.format.order start 0 == some .lt || FloatKind.f64.format.order start 0 == some .eq) = false := h2
    have hf' : (FloatKind.f64.format.order f 4607182418800017408 == some .lt || FloatKind.f64.format.order f 4607182418800017408 == some .eq) = true := h3
    clear h2 h3
    go_enter Tryz.func12, Tryz.ntmps12
    go_wp2_with fail
    refine HE.out.mono ?_
    rintro e w1 ⟨rfl, h1⟩
    have HLV := Lib.hid (histLives_any gs gc w1 (h1.cell HG.out id) (h1.cell HGS.out id))
    have H1 := Lib.hid h1
    clear h1
    go_wp2_with fail
    refine HLV.out.mono ?_
    rintro e w3 ⟨rfl, h3⟩
    have H3 := Lib.hid (H1.out.trans h3)
    clear h3
    go_wp2_with fail
    go_ret
    exact ⟨rfl, H3.out⟩

/-- The law, at every input. -/
theorem fnExp_any (start f : Nat) (c : Int) (gs : Addr) (gc : Nat) (w : World) (hg : w.cell? ⟨2, 0, none⟩ = some (.slice (some gs) 1 gc)) (hgs : w.cell? gs = some (.int .u8 255)) :
    Calls Tryz.prog 12 #[.float .f64 start, .float .f64 f, .int .i64 c] w fun e w' => e = .returned (.bool true) ∧ Only (fun _ => False) w w' := by
  by_cases h1 : 1000 < c
  · exact fnExp_out start f c gs gc w hg hgs (.inl h1)
  · have h1' : c ≤ 1000 := by omega
    cases hs : Fl.isNaN start
    · cases hf : Fl.isNaN f
      · by_cases h2 : c < 1
        · exact fnExp_no start f c gs gc w hg hgs hs hf h1' (.inl h2)
        · cases hl : fle start 0
          · cases hl2 : fle f 4607182418800017408
            · obtain ⟨n, rfl⟩ : ∃ n : Nat, c = n := ⟨c.toNat, by omega⟩
              exact fnExp_yes start f n gs gc w hg hgs hs hf (by omega) (by omega) hl hl2
            · exact fnExp_no start f c gs gc w hg hgs hs hf h1' (.inr ⟨h2, .inr ⟨hl, hl2⟩⟩)
          · exact fnExp_no start f c gs gc w hg hgs hs hf h1' (.inr ⟨h2, .inl hl⟩)
      · exact fnExp_out start f c gs gc w hg hgs (.inr ⟨h1', .inr ⟨hs, hf⟩⟩)
    · exact fnExp_out start f c gs gc w hg hgs (.inr ⟨h1', .inl hs⟩)
end Go.Proofs.YtebjclmbacmilaaGreatDoor
