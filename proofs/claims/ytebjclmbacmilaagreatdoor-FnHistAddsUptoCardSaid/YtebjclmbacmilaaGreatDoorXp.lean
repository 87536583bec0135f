/- Contracts of ExponentialBuckets and of the thin package's Exponential. Conditions: as stated. -/
import Derived.Test.YtebjclmbacmilaaGreatDoorLi
import Derived.Test.YtebjclmbacmilaaGreatDoorEx
namespace Go.Proofs.YtebjclmbacmilaaGreatDoor
open Go.RowKit

theorem make_f64s (n : Nat) (hn : n ≤ 4611686018427) (w : World) :
    (Instr.makeSlice 22 (.int .i64 (n : Int)) (.int .i64 (n : Int))).run Tryz.prog w = .ok (.slice (some ⟨w.heap.size, 0, none⟩) n n) (w.alloc (.cells (List.replicate n (.float .f64 0)).toArray 25)) := by
  have h := run_make_row' (P := Tryz.prog) 22 25 (.float .f64 0) 8 Tryz.underlying22 info25 rfl .i64 .i64 n (by omega) (by omega) w
  rw [toList_made] at h; exact h

def ExpPost (start f n : Nat) (w w' : World) : Prop := ∃ (l : List Nat) (cur : Nat), l.length = n ∧ ExpOk start f l cur ∧ IsBlock w' w.heap.size (f64s l) ∧ Only (fun _ => False) w w'
set_option maxRecDepth 100000 in
set_option maxHeartbeats 1600000 in
theorem expBuckets_yes (start f n : Nat) (w : World) (hn : 0 < n) (hn2 : n ≤ 1000) (hs : fle start 0 = false) (hf : fle f 4607182418800017408 = false) (hz : NZ f) (hx : Mulable f start) :
    Calls Tryz.prog 59 #[.float .f64 start, .float .f64 f, .int .i64 n] w fun e w' => e = .returned (.slice (some ⟨w.heap.size, 0, none⟩) n n) ∧ ExpPost start f n w w' := by
  have hmk := make_f64s n (by omega) w
  have hn' : ¬ (n : Int) < 1 := by omega
  have hnb : (n : Int) ≤ 1000 := by omega
  have hs' : (FloatKind.f64.format.order start 0 == some .lt || FloatKind.f64.format.order start 0 == some .eq) = false := hs
  have hf' : (FloatKind.f64.format.order f 4607182418800017408 == some .lt || FloatKind.f64.format.order f 4607182418800017408 == some .eq) = false := hf
  have HZ := Lib.hid hz
  have HX := Lib.hid hx
  have HN := Lib.hid hn
  clear hz hx hn hn2 hs hf
  go_enter Tryz.func59, Tryz.ntmps59
  go_wp2_with fail
  refine (?_ : ∀ w1, w1 = w.alloc (.cells (Array.replicate n (.float .f64 0)) 25) → Code.wp _ _ _ _ w1) _ rfl
  intro w1 hw1
  have hn3 : ((List.replicate n (Value.float .f64 0)).toArray : Array Value) = Array.replicate n (.float .f64 0) := by simp
  have HB1 : Hid (IsBlock w1 w.heap.size (f64s [] ++ List.replicate (n - 0) (.float .f64 0))) := Lib.hid (by rw [hw1, ← hn3]; exact IsBlock.new w (List.replicate n (.float .f64 0)) 25)
  have HO1 : Hid (Only (fun _ => False) w w1) := Lib.hid (by rw [hw1]; exact (Only.refl _ w).alloc _)
  clear hw1 hmk hn3
  go_loopw [0, 22] (fun c i wr => ∃ (k cur : Nat) (l : List Nat), k ≤ n ∧ i = .int .i64 k ∧ c = .float .f64 cur ∧ l.length = k ∧ ExpOk start f l cur ∧ IsBlock wr w.heap.size (f64s l ++ List.replicate (n - k) (.float .f64 0)) ∧ Only (fun _ => False) w wr) (fun _ i _ => n - (intOf i).toNat)
  case atStart => exact ⟨0, start, [], Nat.zero_le _, rfl, rfl, rfl, ⟨fun h => absurd h (Nat.lt_irrefl _), fun i h => absurd h (Nat.not_lt_zero _), fun _ => rfl, fun h => absurd h (Nat.lt_irrefl _), fun i h => absurd h (Nat.not_lt_zero _), HX.out⟩, HB1.out, HO1.out⟩
  case round =>
    obtain ⟨k, cur, l, hk, rfl, rfl, hl, hE, hB, hO⟩ := hrel
    have HE := Lib.hid hE
    have HB := Lib.hid hB
    have HO := Lib.hid hO
    have HL := Lib.hid hl
    clear hE hB hO hl
    by_cases hkn : k < n
    · have hk0 : (0 : Int) ≤ (k : Int) := by omega
      have hk1 : (k : Int) < (n : Int) := by omega
      obtain ⟨r, hr, hm⟩ := mul_ok HZ.out HE.out.ok
      have ck : wr.cell? ⟨w.heap.size, k, none⟩ = some (.float .f64 0) := HB.out.cell (by
        rw [List.getElem?_append_right (by simp [f64s, HL.out]), List.getElem?_replicate]
        rw [if_pos (by simp [f64s, HL.out]; omega)])
      have fk := HB.out.free k
      have hrun := run_float_arith (P := Tryz.prog) (wr.setCell ⟨w.heap.size, k, none⟩ (.float .f64 cur)) .mul 25 .f64 cur f r hr
      have HN2 : Hid (IsBlock (wr.setCell ⟨w.heap.size, k, none⟩ (.float .f64 cur)) w.heap.size (f64s (l ++ [cur]) ++ List.replicate (n - (k + 1)) (.float .f64 0))) := Lib.hid (by
        have h := HB.out.set k (.float .f64 cur)
        have e : (f64s l ++ List.replicate (n - k) (Value.float .f64 0)).set k (.float .f64 cur) = f64s (l ++ [cur]) ++ List.replicate (n - (k + 1)) (.float .f64 0) := by
          rw [List.set_append_right _ _ (by simp [f64s, HL.out])]
          have h0 : k - (f64s l).length = 0 := by simp [f64s, HL.out]
          have h1 : n - k = (n - (k + 1)) + 1 := by omega
          rw [h0, h1, List.replicate_succ, List.set_cons_zero]
          simp [f64s]
        rw [e] at h; exact h)
      have HR := Lib.hid hr
      have HM := Lib.hid hm
      clear hr hm
      go_wp2_with fail
      go_roundw
      case rel => exact ⟨k + 1, r, l ++ [cur], hkn, by go_num, rfl, by simp [HL.out], HE.out.snoc HR.out HM.out, HN2.out, HO.out.setCell (.inr (Nat.le_refl _)) _⟩
      case measure => simp [intOf]; omega
    · have hke : k = n := by omega
      subst hke
      have hk1 : ¬ (k : Int) < (k : Int) := by omega
      go_wp2_with fail
      go_ret
      exact ⟨rfl, l, cur, HL.out, HE.out, by have h := HB.out; rw [Nat.sub_self, List.replicate_zero, List.append_nil] at h; exact h, HO.out⟩

set_option maxRecDepth 100000 in
theorem expBuckets_no (start f : Nat) (n : Int) (w : World) (h : n < 1 ∨ ¬ n < 1 ∧ (fle start 0 = true ∨ fle start 0 = false ∧ fle f 4607182418800017408 = true)) :
    Calls Tryz.prog 59 #[.float .f64 start, .float .f64 f, .int .i64 n] w fun e w' => (∃ t v, e = .panicked [{ v := .iface t v, recovered := false }]) ∧ w' = w := by
  rcases h with h | ⟨h, h2 | ⟨h2, h3⟩⟩
  · go_enter Tryz.func59, Tryz.ntmps59
    go_wp2_with fail
    exact ⟨rfl, ⟨_, _, rfl⟩, rfl⟩
  · have hs' : (FloatKind.f64.format.order start 0 == some .lt || FloatKind.f64.format.order start 0 == some .eq) = true := h2
    clear h2
    go_enter Tryz.func59, Tryz.ntmps59
    go_wp2_with fail
    exact ⟨rfl, ⟨_, _, rfl⟩, rfl⟩
  · have hs' : (FloatKind.f64.format.order start 0 == some .lt || FloatKind.f64.format.order start 0 == some .eq) = false := h2
    have hf' : (FloatKind.f64.format.order f 4607182418800017408 == some .lt || FloatKind.f64.format.order f 4607182418800017408 == some .eq) = true := h3
    clear h2 h3
    go_enter Tryz.func59, Tryz.ntmps59
    go_wp2_with fail
    exact ⟨rfl, ⟨_, _, rfl⟩, rfl⟩

/-- The literal of Exponential. -/
theorem exp1_yes (sb fb cb ob start f n : Nat) (w : World) (h0 : w.cell? ⟨sb, 0, none⟩ = some (.float .f64 start)) (h1 : w.cell? ⟨fb, 0, none⟩ = some (.float .f64 f)) (h2 : w.cell? ⟨cb, 0, none⟩ = some (.int .i64 n)) (ho : IsBlock w ob [.slice none 0 0])
    (hn : 0 < n) (hn2 : n ≤ 1000) (hs : fle start 0 = false) (hf : fle f 4607182418800017408 = false) (hz : NZ f) (hx : Mulable f start) :
    Calls Tryz.prog 58 #[.pointer (some ⟨sb, 0, none⟩), .pointer (some ⟨fb, 0, none⟩), .pointer (some ⟨cb, 0, none⟩), .pointer (some ⟨ob, 0, none⟩)] w fun e w' => e = .returned (.tuple #[]) ∧
      ∃ w1, ExpPost start f n w w1 ∧ w' = w1.setCell ⟨ob, 0, none⟩ (.slice (some ⟨w.heap.size, 0, none⟩) n n) := by
  have HC := Lib.hid (expBuckets_yes start f n w hn hn2 hs hf hz hx)
  have HO := Lib.hid ho
  clear hs hf hz hx ho hn hn2
  go_enter Tryz.func58, Tryz.ntmps58
  go_wp2_with fail
  refine HC.out.mono ?_
  rintro e w1 ⟨rfl, hp⟩
  have hon : Only (fun _ => False) w w1 := by obtain ⟨_, _, _, _, _, h⟩ := hp; exact h
  have hb := hon.isBlock HO.out id
  have c0 := hb.cell (i := 0) rfl
  have f0 := hb.free 0
  have HP := Lib.hid hp
  clear hp hon hb HC
  go_wp2_with fail
  go_end0
  exact ⟨rfl, w1, HP.out, rfl⟩
theorem exp1_no (sb fb cb ob start f : Nat) (n : Int) (w : World) (h0 : w.cell? ⟨sb, 0, none⟩ = some (.float .f64 start)) (h1 : w.cell? ⟨fb, 0, none⟩ = some (.float .f64 f)) (h2 : w.cell? ⟨cb, 0, none⟩ = some (.int .i64 n))
    (h : n < 1 ∨ ¬ n < 1 ∧ (fle start 0 = true ∨ fle start 0 = false ∧ fle f 4607182418800017408 = true)) :
    Calls Tryz.prog 58 #[.pointer (some ⟨sb, 0, none⟩), .pointer (some ⟨fb, 0, none⟩), .pointer (some ⟨cb, 0, none⟩), .pointer (some ⟨ob, 0, none⟩)] w fun e w' => (∃ t v, e = .panicked [{ v := .iface t v, recovered := false }]) ∧ w' = w := by
  have HC := Lib.hid (expBuckets_no start f n w h)
  clear h
  go_enter Tryz.func58, Tryz.ntmps58
  go_wp2_with fail
  refine HC.out.mono ?_
  rintro e w1 ⟨⟨t, v, rfl⟩, rfl⟩
  go_wp2_with fail
  exact ⟨rfl, ⟨_, _, rfl⟩, rfl⟩

set_option maxRecDepth 100000 in
theorem tryExp_yes (sb fb cb ob start f n : Nat) (W : World) (h0 : IsBlock W sb [.float .f64 start]) (h1 : IsBlock W fb [.float .f64 f]) (h2 : IsBlock W cb [.int .i64 n]) (ho : IsBlock W ob [.slice none 0 0])
    (hn : 0 < n) (hn2 : n ≤ 1000) (hs : fle start 0 = false) (hf : fle f 4607182418800017408 = false) (hz : NZ f) (hx : Mulable f start) :
    Calls Tryz.prog 53 #[.func (.func 58) #[] #[.pointer (some ⟨sb, 0, none⟩), .pointer (some ⟨fb, 0, none⟩), .pointer (some ⟨cb, 0, none⟩), .pointer (some ⟨ob, 0, none⟩)]] W fun e w' => e = .returned (.bool true) ∧
      ∃ (g : Nat) (l : List Nat) (cur : Nat), l.length = n ∧ ExpOk start f l cur ∧ IsBlock w' g (f64s l) ∧ IsBlock w' ob [.slice (some ⟨g, 0, none⟩) n n] ∧ Only (fun k => k = ob) W w' := by
  have hsz : (W.alloc (.cells #[.bool false] 4)).heap.size = W.heap.size + 1 := World.size_alloc _ _
  have hol := ho.lt
  refine (doorTry_ok 58 _ W (fun w1 => ∃ (l : List Nat) (cur : Nat), l.length = n ∧ ExpOk start f l cur ∧ IsBlock w1 (W.heap.size + 1) (f64s l) ∧ IsBlock w1 ob [.slice (some ⟨W.heap.size + 1, 0, none⟩) n n] ∧ Only (fun k => k = ob) (W.alloc (.cells #[.bool false] 4)) w1) (fun _ => rfl) ?_).mono ?_
  · refine (exp1_yes sb fb cb ob start f n _ ((h0.alloc _).cell rfl) ((h1.alloc _).cell rfl) ((h2.alloc _).cell rfl) (ho.alloc _) hn hn2 hs hf hz hx).mono ?_
    rintro e w1 ⟨rfl, w2, ⟨l, cur, hl, hE, hB, hO⟩, rfl⟩
    rw [hsz] at hB ⊢
    refine ⟨rfl, (hO.isBlock (IsBlock.new W [.bool false] 4) id).set_ne (a := ⟨ob, 0, none⟩) (by show W.heap.size ≠ ob; omega) _, l, cur, hl, hE, hB.set_ne (a := ⟨ob, 0, none⟩) (by show W.heap.size + 1 ≠ ob; omega) _, (hO.isBlock (ho.alloc _) id).set 0 _, (hO.mono (T := fun k => k = ob) (fun _ _ h => h.elim)).setCell (p := ⟨ob, 0, none⟩) (.inl rfl) _⟩
  · rintro e w' ⟨rfl, w1, ⟨l, cur, hl, hE, hB, hv, hon⟩, rfl⟩
    refine ⟨rfl, W.heap.size + 1, l, cur, hl, hE, hB.set_ne (a := ⟨W.heap.size, 0, none⟩) (by show W.heap.size + 1 ≠ W.heap.size; omega) _, hv.set_ne (a := ⟨W.heap.size, 0, none⟩) (by show ob ≠ W.heap.size; omega) _, ?_⟩
    exact ((Only.refl (fun k => k = ob) W).alloc _ |>.trans hon).setCell (p := ⟨W.heap.size, 0, none⟩) (.inr (Nat.le_refl _)) _
set_option maxRecDepth 100000 in
theorem tryExp_no (sb fb cb ob start f : Nat) (n : Int) (W : World) (h0 : IsBlock W sb [.float .f64 start]) (h1 : IsBlock W fb [.float .f64 f]) (h2 : IsBlock W cb [.int .i64 n]) (ho : IsBlock W ob [.slice none 0 0])
    (h : n < 1 ∨ ¬ n < 1 ∧ (fle start 0 = true ∨ fle start 0 = false ∧ fle f 4607182418800017408 = true)) :
    Calls Tryz.prog 53 #[.func (.func 58) #[] #[.pointer (some ⟨sb, 0, none⟩), .pointer (some ⟨fb, 0, none⟩), .pointer (some ⟨cb, 0, none⟩), .pointer (some ⟨ob, 0, none⟩)]] W fun e w' => e = .returned (.bool false) ∧ IsBlock w' ob [.slice none 0 0] ∧ Only (fun _ => False) W w' := by
  have hol := ho.lt
  refine (doorTry_no 58 _ W (fun w1 => w1 = W.alloc (.cells #[.bool false] 4)) (fun _ => rfl) ?_).mono ?_
  · refine (exp1_no sb fb cb ob start f n _ ((h0.alloc _).cell rfl) ((h1.alloc _).cell rfl) ((h2.alloc _).cell rfl) h).mono ?_
    rintro e w1 ⟨hp, rfl⟩
    exact ⟨hp, IsBlock.new W [.bool false] 4, rfl⟩
  · rintro e w' ⟨rfl, w1, rfl, rfl⟩
    exact ⟨rfl, (ho.alloc _).set_ne (a := ⟨W.heap.size, 0, none⟩) (by show ob ≠ W.heap.size; omega) _, ((Only.refl _ W).alloc _).setCell (p := ⟨W.heap.size, 0, none⟩) (.inr (Nat.le_refl _)) _⟩

set_option maxRecDepth 100000 in
theorem exp_yes (start f n : Nat) (w : World) (hn : 0 < n) (hn2 : n ≤ 1000) (hs : fle start 0 = false) (hf : fle f 4607182418800017408 = false) (hz : NZ f) (hx : Mulable f start) :
    Calls Tryz.prog 35 #[.float .f64 start, .float .f64 f, .int .i64 n] w fun e w' => ∃ (g : Nat) (l : List Nat) (cur : Nat), e = .returned (.tuple #[.slice (some ⟨g, 0, none⟩) n n, .bool true]) ∧ l.length = n ∧ ExpOk start f l cur ∧ IsBlock w' g (f64s l) ∧ Only (fun _ => False) w w' := by
  have hmf : ∀ (fn : Fn) (first cap : Array Value) (w : World), (Instr.makeFunc fn first cap).run Tryz.prog w = .ok (.func fn first cap) w := fun _ _ _ _ => rfl
  have hle : (n : Int) ≤ 100000 := by omega
  have HH : Hid (0 < n ∧ n ≤ 1000 ∧ fle start 0 = false ∧ fle f 4607182418800017408 = false ∧ NZ f ∧ Mulable f start) := Lib.hid ⟨hn, hn2, hs, hf, hz, hx⟩
  clear hn hn2 hs hf hz hx
  go_enter Tryz.func35, Tryz.ntmps35
  go_wp2_with fail
  refine (?_ : ∀ w4, w4 = (((w.alloc (.cells #[.float .f64 start] 25)).alloc (.cells #[.float .f64 f] 25)).alloc (.cells #[.int .i64 n] 3)).alloc (.cells #[.slice none 0 0] 22) → Calls Tryz.prog 53 _ w4 _) _ rfl
  intro w4 hw4
  have b0 : IsBlock w4 w.heap.size [.float .f64 start] := by rw [hw4]; exact (((IsBlock.new w [.float .f64 start] 25).alloc _).alloc _).alloc _
  have b1 : IsBlock w4 (w.heap.size + 1) [.float .f64 f] := by rw [hw4]; exact ((blk_new _ [.float .f64 f] 25 _ (by simp)).alloc _).alloc _
  have b2 : IsBlock w4 (w.heap.size + 1 + 1) [.int .i64 n] := by rw [hw4]; exact (blk_new _ [.int .i64 n] 3 _ (by simp)).alloc _
  have b3 : IsBlock w4 (w.heap.size + 1 + 1 + 1) [.slice none 0 0] := by rw [hw4]; exact blk_new _ [.slice none 0 0] 22 _ (by simp)
  have HO : Hid (Only (fun _ => False) w w4) := Lib.hid (by rw [hw4]; exact ((((Only.refl _ w).alloc _).alloc _).alloc _).alloc _)
  obtain ⟨hn, hn2, hs, hf, hz, hx⟩ := HH.out
  have HT := Lib.hid (tryExp_yes _ _ _ _ start f n w4 b0 b1 b2 b3 hn hn2 hs hf hz hx)
  clear hw4 b0 b1 b2 b3 hn hn2 hs hf hz hx HH
  refine HT.out.mono ?_
  rintro e w5 ⟨rfl, g, l, cur, hl, hE, hB, hv, hon⟩
  have cv := hv.cell (i := 0) rfl
  have HF : Hid (l.length = n ∧ ExpOk start f l cur ∧ IsBlock w5 g (f64s l) ∧ Only (fun _ => False) w w5) := Lib.hid ⟨hl, hE, hB, Only.widen HO.out hon (fun j hj => by omega)⟩
  clear hl hE hB hv hon HT HO
  go_wp2_with fail
  go_ret2
  exact ⟨g, l, cur, rfl, HF.out⟩
set_option maxRecDepth 100000 in
theorem exp_no (start f : Nat) (n : Int) (w : World) (h : n < 1 ∨ ¬ n < 1 ∧ (fle start 0 = true ∨ fle start 0 = false ∧ fle f 4607182418800017408 = true)) (hle : n ≤ 100000) :
    Calls Tryz.prog 35 #[.float .f64 start, .float .f64 f, .int .i64 n] w fun e w' => e = .returned (.tuple #[.slice none 0 0, .bool false]) ∧ Only (fun _ => False) w w' := by
  have hmf : ∀ (fn : Fn) (first cap : Array Value) (w : World), (Instr.makeFunc fn first cap).run Tryz.prog w = .ok (.func fn first cap) w := fun _ _ _ _ => rfl
  have HH := Lib.hid h
  clear h
  go_enter Tryz.func35, Tryz.ntmps35
  go_wp2_with fail
  refine (?_ : ∀ w4, w4 = (((w.alloc (.cells #[.float .f64 start] 25)).alloc (.cells #[.float .f64 f] 25)).alloc (.cells #[.int .i64 n] 3)).alloc (.cells #[.slice none 0 0] 22) → Calls Tryz.prog 53 _ w4 _) _ rfl
  intro w4 hw4
  have b0 : IsBlock w4 w.heap.size [.float .f64 start] := by rw [hw4]; exact (((IsBlock.new w [.float .f64 start] 25).alloc _).alloc _).alloc _
  have b1 : IsBlock w4 (w.heap.size + 1) [.float .f64 f] := by rw [hw4]; exact ((blk_new _ [.float .f64 f] 25 _ (by simp)).alloc _).alloc _
  have b2 : IsBlock w4 (w.heap.size + 1 + 1) [.int .i64 n] := by rw [hw4]; exact (blk_new _ [.int .i64 n] 3 _ (by simp)).alloc _
  have b3 : IsBlock w4 (w.heap.size + 1 + 1 + 1) [.slice none 0 0] := by rw [hw4]; exact blk_new _ [.slice none 0 0] 22 _ (by simp)
  have HO : Hid (Only (fun _ => False) w w4) := Lib.hid (by rw [hw4]; exact ((((Only.refl _ w).alloc _).alloc _).alloc _).alloc _)
  have HT := Lib.hid (tryExp_no _ _ _ _ start f n w4 b0 b1 b2 b3 (HH.out.imp id (fun ⟨a, b⟩ => ⟨by omega, b⟩)))
  clear hw4 b0 b1 b2 b3 HH
  refine HT.out.mono ?_
  rintro e w5 ⟨rfl, hv, hon⟩
  have cv := hv.cell (i := 0) rfl
  have HF := Lib.hid (HO.out.trans hon)
  clear hv hon HT HO
  go_wp2_with fail
  go_ret2
  exact ⟨rfl, HF.out⟩
end Go.Proofs.YtebjclmbacmilaaGreatDoor
