/- Contract of FnExponential: it answers true, at every input. Condition: the separator variable reads as the text lays it. -/
import Derived.Test.YtebjclmbacmilaaGreatDoorXp
import Derived.Deep.QuietTactic
import Derived.BigQuiet
namespace Go.Proofs.YtebjclmbacmilaaGreatDoor
open Go.RowKit

theorem sameNum_self (x : Nat) (w : World) (hx : Fl.isNaN x = false) :
    Calls Tryz.prog 23 #[.float .f64 x, .float .f64 x] w fun e w' => e = .returned (.bool true) ∧ w' = w := by
  have h : (FloatKind.f64.format.order x x == some .eq) = true := by
    have := (feq_iff x x).2 ⟨hx, hx, rfl⟩
    exact this
  go_enter Tryz.func23, Tryz.ntmps23
  go_wp2
  all_goals
    go_ret
    exact ⟨rfl, rfl⟩

theorem neq_self {x : Nat} (hx : Fl.isNaN x = false) : (FloatKind.f64.format.order x x != some Ordering.eq) = false := by
  have h : (FloatKind.f64.format.order x x == some .eq) = true := (feq_iff x x).2 ⟨hx, hx, rfl⟩
  simp only [bne, h]; rfl

set_option maxRecDepth 100000 in
set_option maxHeartbeats 1600000 in
theorem fnExp_yes (start f n : Nat) (gs : Addr) (gc : Nat) (w : World) (hg : w.cell? ⟨2, 0, none⟩ = some (.slice (some gs) 1 gc)) (hgs : w.cell? gs = some (.int .u8 255))
    (hs0 : Fl.isNaN start = false) (hf0 : Fl.isNaN f = false)
    (hn : 0 < n) (hn2 : n ≤ 1000) (hs : fle start 0 = false) (hf : fle f 4607182418800017408 = false) :
    Calls Tryz.prog 12 #[.float .f64 start, .float .f64 f, .int .i64 n] w fun e w' => e = .returned (.bool true) ∧ Only (fun _ => False) w w' := by
  have hz : NZ f := nz_of_gt (y := 4607182418800017408) (by decide +kernel) (fgt_of_not hf0 (by decide +kernel) hf)
  have hx : Mulable f start := ⟨hs0, fun _ => nz_of_gt (y := 0) (by decide +kernel) (fgt_of_not hs0 (by decide +kernel) hs)⟩
  have HE := Lib.hid (exp_yes start f n w hn hn2 hs hf hz hx)
  have e1 := neq_self hs0
  have e2 := neq_self hf0
  have hs' : (FloatKind.f64.format.order start 0 == some .lt || FloatKind.f64.format.order start 0 == some .eq) = false := hs
  have hf' : (FloatKind.f64.format.order f 4607182418800017408 == some .lt || FloatKind.f64.format.order f 4607182418800017408 == some .eq) = false := hf
  have hn' : ¬ (1000 : Int) < (n : Int) := by omega
  have hn1 : ¬ (n : Int) < 1 := by omega
  have HG := Lib.hid hg
  have HGS := Lib.hid hgs
  clear hg hgs hn hn2 hs hf hz hx
  go_enter Tryz.func12, Tryz.ntmps12
  go_wp2_with fail
  refine HE.out.mono ?_
  rintro e w1 ⟨g, l, cur, rfl, hl, hE, hB, hO⟩
  have HL := Lib.hid hl
  have HEE := Lib.hid hE
  have HB := Lib.hid hB
  have HO := Lib.hid hO
  clear hl hE hB hO HE
  go_wp2_with fail
  go_loopw [9] (fun i wr => ∃ (k d : Nat), k ≤ n ∧ i = .int .i64 k ∧ wr = w1.drewN d) (fun i _ => n - (intOf i).toNat)
  case atStart => exact ⟨0, 0, Nat.zero_le _, rfl, rfl⟩
  case round =>
    obtain ⟨k, d, hk, rfl, hwr⟩ := hrel
    have hcell : ∀ i, i < n → wr.cell? ⟨g, i, none⟩ = some (.float .f64 (wd l i)) := fun i hi => by
      have h := HB.out.cell (i := i) (v := .float .f64 (wd l i)) (by have := getD_f64s (l := l) (x := []) (i := i) (by rw [HL.out]; exact hi); rwa [List.append_nil] at this)
      rw [hwr]; exact h
    by_cases hkn : k < n
    · rcases Nat.eq_zero_or_pos k with h0 | h0
      · subst h0
        have hc := hcell 0 hkn
        rw [HEE.out.first (by rw [HL.out]; exact hkn)] at hc
        have hnn : (0 : Int) < (n : Int) := by omega
        have HWR := Lib.hid hwr
        clear hcell hwr hk
        go_wp2_with fail
        go_quiet (fail)
        go_wp2_with fail
        go_roundw
        case rel => exact ⟨1, d + nq, by omega, rfl, by rw [HWR.out]; simp [World.drewN, Nat.add_assoc]⟩
        case measure => simp [intOf]; omega
      · obtain ⟨j, rfl⟩ : ∃ j, k = j + 1 := ⟨k - 1, by omega⟩
        have hc1 := hcell (j + 1) hkn
        have hc0 := hcell j (by omega)
        have hmul := HEE.out.next j (by rw [HL.out]; omega)
        have hnan := HEE.out.nan (j + 1) (by rw [HL.out]; omega)
        have hrun : ∀ w, (binOp .mul 25 (.float .f64 (wd l j)) (.float .f64 f)).run Tryz.prog w = .ok (.float .f64 (wd l (j + 1))) w := fun w => run_float_arith w .mul 25 .f64 _ _ _ hmul
        have hj1 : (j : Int) + 1 < (n : Int) := by omega
        have hj0 : (j : Int) < (n : Int) := by omega
        have hjp : (0 : Int) ≤ (j : Int) := by omega
        have hjq : (0 : Int) ≤ (j : Int) + 1 := by omega
        have hjr : (0 : Int) < (j : Int) + 1 := by omega
        have hje : (((j : Int) + 1) == 0) = false := by rw [beq_eq_false_iff_ne]; omega
        have HWR := Lib.hid hwr
        clear hcell hwr hk hmul
        go_wp2_with fail
        go_quiet ((go_at_call 23; exact Calls.quiet_of_same (sameNum_self _ _ hnan)))
        go_wp2_with fail
        go_roundw
        case rel => exact ⟨j + 1 + 1, d + nq, by omega, by go_num, by rw [HWR.out]; simp [World.drewN, Nat.add_assoc]⟩
        case measure => simp [intOf]; omega
    · have hke : k = n := by omega
      subst hke
      have hk1 : ¬ (k : Int) < (k : Int) := by omega
      have hO1 : Only (fun _ => False) w wr := by rw [hwr]; exact HO.out.drewN d
      have HLV := Lib.hid (histLives_any gs gc wr (hO1.cell HG.out id) (hO1.cell HGS.out id))
      have HO1 := Lib.hid hO1
      clear hcell hwr hO1
      go_wp2_with fail
      refine HLV.out.mono ?_
      rintro e w3 ⟨rfl, h3⟩
      have H3 := Lib.hid h3
      clear h3
      go_wp2_with fail
      go_ret
      exact ⟨rfl, HO1.out.trans H3.out⟩

theorem neq_nan {x : Nat} (hx : Fl.isNaN x = true) : (FloatKind.f64.format.order x x != some Ordering.eq) = true := by
  rw [ord_eq, hx]; rfl

set_option maxRecDepth 100000 in
set_option maxHeartbeats 1600000 in
theorem fnExp_out (start f : Nat) (c : Int) (gs : Addr) (gc : Nat) (w : World) (hg : w.cell? ⟨2, 0, none⟩ = some (.slice (some gs) 1 gc)) (hgs : w.cell? gs = some (.int .u8 255))
    (h : 1000 < c ∨ c ≤ 1000 ∧ (Fl.isNaN start = true ∨ Fl.isNaN start = false ∧ Fl.isNaN f = true)) :
    Calls Tryz.prog 12 #[.float .f64 start, .float .f64 f, .int .i64 c] w fun e w' => e = .returned (.bool true) ∧ Only (fun _ => False) w w' := by
  have HLV := Lib.hid (histLives_any gs gc w hg hgs)
  clear hg hgs
  rcases h with h | ⟨h, h2 | ⟨h2, h3⟩⟩
  · go_enter Tryz.func12, Tryz.ntmps12
    go_wp2_with fail
    refine HLV.out.mono ?_
    rintro e w3 ⟨rfl, h3⟩
    have H3 := Lib.hid h3
    clear h3
    go_wp2_with fail
    go_ret
    exact ⟨rfl, H3.out⟩
  · have h' : ¬ 1000 < c := by omega
    have e1 := neq_nan h2
    clear h h2
    go_enter Tryz.func12, Tryz.ntmps12
    go_wp2_with fail
    refine HLV.out.mono ?_
    rintro e w3 ⟨rfl, h3⟩
    have H3 := Lib.hid h3
    clear h3
    go_wp2_with fail
    go_ret
    exact ⟨rfl, H3.out⟩
  · have h' : ¬ 1000 < c := by omega
    have e1 := neq_self h2
    have e2 := neq_nan h3
    clear h h2 h3
    go_enter Tryz.func12, Tryz.ntmps12
    go_wp2_with fail
    refine HLV.out.mono ?_
    rintro e w3 ⟨rfl, h3⟩
    have H3 := Lib.hid h3
    clear h3
    go_wp2_with fail
    go_ret
    exact ⟨rfl, H3.out⟩

set_option maxRecDepth 100000 in
set_option maxHeartbeats 1600000 in
theorem fnExp_no (start f : Nat) (c : Int) (gs : Addr) (gc : Nat) (w : World) (hg : w.cell? ⟨2, 0, none⟩ = some (.slice (some gs) 1 gc)) (hgs : w.cell? gs = some (.int .u8 255))
    (hs0 : Fl.isNaN start = false) (hf0 : Fl.isNaN f = false) (hc : c ≤ 1000) (h : c < 1 ∨ ¬ c < 1 ∧ (fle start 0 = true ∨ fle start 0 = false ∧ fle f 4607182418800017408 = true)) :
    Calls Tryz.prog 12 #[.float .f64 start, .float .f64 f, .int .i64 c] w fun e w' => e = .returned (.bool true) ∧ Only (fun _ => False) w w' := by
  have HE := Lib.hid (exp_no start f c w h (by omega))
  have e1 := neq_self hs0
  have e2 := neq_self hf0
  have hc' : ¬ 1000 < c := by omega
  have HG := Lib.hid hg
  have HGS := Lib.hid hgs
  clear hg hgs hc hs0 hf0
  rcases h with h | ⟨h, h2 | ⟨h2, h3⟩⟩
  · go_enter Tryz.func12, Tryz.ntmps12
    go_wp2_with fail
    refine HE.out.mono ?_
    rintro e w1 ⟨rfl, h1⟩
    have HLV := Lib.hid (histLives_any gs gc w1 (h1.cell HG.out id) (h1.cell HGS.out id))
    have H1 := Lib.hid h1
    clear h1
    go_wp2_with fail
    refine HLV.out.mono ?_
    rintro e w3 ⟨rfl, h3⟩
    have H3 := Lib.hid (H1.out.trans h3)
    clear h3
    go_wp2_with fail
    go_ret
    exact ⟨rfl, H3.out⟩
  · have hs' : (FloatKind.f64.format.order start 0 == some .lt || FloatKind.f64.format.order start 0 == some .eq) = true := h2
    clear h2
    go_enter Tryz.func12, Tryz.ntmps12
    go_wp2_with fail
    refine HE.out.mono ?_
    rintro e w1 ⟨rfl, h1⟩
    have HLV := Lib.hid (histLives_any gs gc w1 (h1.cell HG.out id) (h1.cell HGS.out id))
    have H1 := Lib.hid h1
    clear h1
    go_wp2_with fail
    refine HLV.out.mono ?_
    rintro e w3 ⟨rfl, h3⟩
    have H3 := Lib.hid (H1.out.trans h3)
    clear h3
    go_wp2_with fail
    go_ret
    exact ⟨rfl, H3.out⟩
  · have hs' : (FloatKind.f64.format.order start 0 == some .lt || FloatKind.f64.format.order start 0 == some .eq) = false := h2
    have hf' : (FloatKind.f64.format.order f 4607182418800017408 == some .lt || FloatKind.f64.format.order f 4607182418800017408 == some .eq) = true := h3
    clear h2 h3
    go_enter Tryz.func12, Tryz.ntmps12
    go_wp2_with fail
    refine HE.out.mono ?_
    rintro e w1 ⟨rfl, h1⟩
    have HLV := Lib.hid (histLives_any gs gc w1 (h1.cell HG.out id) (h1.cell HGS.out id))
    have H1 := Lib.hid h1
    clear h1
    go_wp2_with fail
    refine HLV.out.mono ?_
    rintro e w3 ⟨rfl, h3⟩
    have H3 := Lib.hid (H1.out.trans h3)
    clear h3
    go_wp2_with fail
    go_ret
    exact ⟨rfl, H3.out⟩

/-- The law, at every input. -/
theorem fnExp_any (start f : Nat) (c : Int) (gs : Addr) (gc : Nat) (w : World) (hg : w.cell? ⟨2, 0, none⟩ = some (.slice (some gs) 1 gc)) (hgs : w.cell? gs = some (.int .u8 255)) :
    Calls Tryz.prog 12 #[.float .f64 start, .float .f64 f, .int .i64 c] w fun e w' => e = .returned (.bool true) ∧ Only (fun _ => False) w w' := by
  by_cases h1 : 1000 < c
  · exact fnExp_out start f c gs gc w hg hgs (.inl h1)
  · have h1' : c ≤ 1000 := by omega
    cases hs : Fl.isNaN start
    · cases hf : Fl.isNaN f
      · by_cases h2 : c < 1
        · exact fnExp_no start f c gs gc w hg hgs hs hf h1' (.inl h2)
        · cases hl : fle start 0
          · cases hl2 : fle f 4607182418800017408
            · obtain ⟨n, rfl⟩ : ∃ n : Nat, c = n := ⟨c.toNat, by omega⟩
              exact fnExp_yes start f n gs gc w hg hgs hs hf (by omega) (by omega) hl hl2
            · exact fnExp_no start f c gs gc w hg hgs hs hf h1' (.inr ⟨h2, .inr ⟨hl, hl2⟩⟩)
          · exact fnExp_no start f c gs gc w hg hgs hs hf h1' (.inr ⟨h2, .inl hl⟩)
      · exact fnExp_out start f c gs gc w hg hgs (.inr ⟨h1', .inr ⟨hs, hf⟩⟩)
    · exact fnExp_out start f c gs gc w hg hgs (.inr ⟨h1', .inl hs⟩)
end Go.Proofs.YtebjclmbacmilaaGreatDoor
