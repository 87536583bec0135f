/- Bounds: numbers, in order: the plain law; contracts of HistNumbers and HistSorted. Conditions: as stated. SameNum. No conditions. histInf; HistBounds where the histogram is native: the bounds without a last infinite one. Conditions: as stated. What the cards of the laws over slices of floats want: the argument opened, the bound, a witness. Conditions: as stated. A slice of floats that came in: its words are of 64 bits. Conditions: as stated. -/
import Derived.Test.YtebjclmbacmilaaGreatDoorxLe
import Derived.Test.YtebjclmbacmilaaGreatDoorCd
import Derived.Deep.Slices
import Derived.Deep.DeepHandedRow
namespace Go.Proofs.YtebjclmbacmilaaGreatDoor
open Go.RowKit

theorem wd_mem {bs : List Nat} {i : Nat} (h : i < bs.length) : wd bs i ∈ bs := by
  unfold wd; rw [List.getD_eq_getElem?_getD, List.getElem?_eq_getElem h]; exact List.getElem_mem h
theorem incr_of_asc {bs : List Nat} (hn : ∀ b ∈ bs, Fl.isNaN b = false) (ha : Asc bs) : Incr bs := by
  refine ⟨hn, fun i j hij hj => ?_⟩
  have step : ∀ i, i + 1 < bs.length → Fl.key (wd bs i) < Fl.key (wd bs (i + 1)) := fun i hi => by
    have h := ha i hi
    by_cases hk : Fl.key (wd bs i) < Fl.key (wd bs (i + 1))
    · exact hk
    · have : fge (wd bs i) (wd bs (i + 1)) = true := (fge_iff _ _).2 ⟨hn _ (wd_mem (by omega)), hn _ (wd_mem hi), by omega⟩
      rw [this] at h; cases h
  obtain ⟨d, rfl⟩ : ∃ d, j = i + 1 + d := ⟨j - (i + 1), by omega⟩
  clear hij
  show Fl.key (wd bs i) < Fl.key (wd bs (i + 1 + d))
  induction d with
  | zero => exact step i hj
  | succ d ih => have := ih (by omega); have := step (i + 1 + d) (by omega); rw [show i + 1 + (d + 1) = i + 1 + d + 1 by omega]; omega
theorem incr_cut {bs : List Nat} (h : Incr bs) : Incr (cutBs bs) := by
  unfold cutBs
  split
  · refine ⟨fun b hb => h.1 b (List.dropLast_subset bs hb), fun i j hij hj => ?_⟩
    rw [List.length_dropLast] at hj
    have e : ∀ k, k < bs.length - 1 → bs.dropLast.getD k 0 = bs.getD k 0 := fun k hk => by
      rw [List.getD_eq_getElem?_getD, List.getD_eq_getElem?_getD, List.getElem?_dropLast, if_pos hk]
    rw [e i (by omega), e j hj]
    exact h.2 i j hij (by omega)
  · exact h
theorem asc_eff {bs : List Nat} : Asc (effBs bs) ↔ Asc bs := by
  unfold effBs
  split
  · rename_i h
    subst h
    refine ⟨fun _ i hi => by simp at hi, fun _ i hi => ?_⟩
    have hd : ∀ i, i < 10 → fge (wd defBs i) (wd defBs (i + 1)) = false := by decide +kernel
    exact hd i (by have : defBs.length = 11 := rfl; omega)
  · exact Iff.rfl
theorem nan_eff {bs : List Nat} (h : ∀ b ∈ bs, Fl.isNaN b = false) : ∀ b ∈ effBs bs, Fl.isNaN b = false := by
  unfold effBs
  split
  · have hd : ∀ b ∈ defBs, Fl.isNaN b = false := by decide +kernel
    exact hd
  · exact h

/-- The cells of a slice that came in. -/
def InCells (w : World) (ba : Option Addr) (bs : List Nat) : Prop := ∀ i, i < bs.length → ∃ b off, ba = some ⟨b, off, none⟩ ∧ w.cell? ⟨b, off + i, none⟩ = some (.float .f64 (wd bs i))
theorem InCells.src {w : World} {ba : Option Addr} {bs : List Nat} {bc : Nat} (h : InCells w ba bs) (hn : ba = none → bc = 0) (hp : ∀ a, ba = some a → ∃ b off, a = ⟨b, off, none⟩) : SrcIs w (.slice ba bs.length bc) 1 bs.length (f64s bs) := by
  cases ba with
  | none =>
    have hl : bs.length = 0 := by
      by_cases h0 : 0 < bs.length
      · obtain ⟨_, _, he, _⟩ := h 0 h0; cases he
      · omega
    have hb : bs = [] := List.length_eq_zero_iff.1 hl
    subst hb
    rw [hn rfl]
    exact .inl ⟨rfl, rfl, rfl⟩
  | some a =>
    obtain ⟨b, off, rfl⟩ := hp a rfl
    refine .inr ⟨⟨b, off, none⟩, bc, rfl, by simp [f64s], fun j u hj => ?_⟩
    have hlt : j < bs.length := by
      by_cases hl : j < bs.length
      · exact hl
      · rw [List.getElem?_eq_none (by simp [f64s]; omega)] at hj; cases hj
    obtain ⟨b', off', he, hc⟩ := h j hlt
    simp only [Option.some.injEq, Addr.mk.injEq, and_true] at he
    obtain ⟨rfl, rfl⟩ := he
    have := getD_f64s (l := bs) (x := []) hlt
    rw [List.append_nil, hj] at this
    rw [Option.some.inj this]
    rw [show (⟨b, off, none⟩ : Addr).add j = ⟨b, off + j, none⟩ by unfold Addr.add; split <;> simp_all]
    exact hc

set_option maxRecDepth 100000 in
set_option maxHeartbeats 1600000 in
theorem histNumbers_any (ba : Option Addr) (bc : Nat) (bs : List Nat) (w : World) (hc : InCells w ba bs) (hlen : bs.length ≤ 1048577) :
    Calls Tryz.prog 27 #[.slice ba bs.length bc] w fun e w' => ((e = .returned (.bool true) ∧ ∀ b ∈ bs, Fl.isNaN b = false) ∨ (e = .returned (.bool false) ∧ ¬ ∀ b ∈ bs, Fl.isNaN b = false)) ∧ ∃ d, w' = w.drewN d := by
  have hlen' : (bs.length : Int) ≤ 1048577 := by omega
  go_enter Tryz.func27, Tryz.ntmps27
  go_wp2_with fail
  go_loopw [3] (fun i wr => ∃ (k d : Nat), k ≤ bs.length ∧ i = .int .i64 k ∧ wr = w.drewN d ∧ ∀ j, j < k → Fl.isNaN (wd bs j) = false) (fun i _ => bs.length - (intOf i).toNat)
  case atStart => exact ⟨0, 0, Nat.zero_le _, rfl, rfl, fun j hj => by omega⟩
  case round =>
    obtain ⟨k, d, hk, rfl, hwr, hold⟩ := hrel
    have HOLD := Lib.hid hold
    have HWR := Lib.hid hwr
    clear hold
    by_cases hkn : k < bs.length
    · obtain ⟨b, off, rfl, hcell⟩ := hc k hkn
      have hcell : wr.cell? ⟨b, off + k, none⟩ = some (.float .f64 (wd bs k)) := by rw [hwr]; exact hcell
      clear hwr
      cases hN : Fl.isNaN (wd bs k) with
      | false =>
        have e1 := neq_self hN
        have HN := Lib.hid hN
        clear hk hN
        go_wp2_with fail
        go_quiet (fail)
        go_wp2_with fail
        go_roundw
        case rel => exact ⟨k + 1, d + nq, by omega, by go_num, by rw [HWR.out]; simp [World.drewN, Nat.add_assoc], fun j hj => by
          rcases Nat.lt_succ_iff_lt_or_eq.1 hj with h | h
          · exact HOLD.out j h
          · rw [h]; exact HN.out⟩
        case measure => simp [intOf]; omega
      | true =>
        have e1 := neq_nan hN
        have HN := Lib.hid hN
        clear hk hN
        go_wp2_with fail
        go_quiet (fail)
        go_wp2_with fail
        go_ret
        exact ⟨.inr ⟨rfl, fun h => by have := h _ (wd_mem hkn); rw [HN.out] at this; cases this⟩, d + nq, by rw [HWR.out]; simp [World.drewN, Nat.add_assoc]⟩
    · have hke : k = bs.length := by omega
      subst hke
      have hk1 : ¬ (bs.length : Int) < (bs.length : Int) := by omega
      clear hkn hk hwr
      go_wp2_with fail
      go_ret
      refine ⟨.inl ⟨rfl, fun b hb => ?_⟩, d, HWR.out⟩
      obtain ⟨j, hj, rfl⟩ := List.mem_iff_getElem.1 hb
      have := HOLD.out j hj
      unfold wd at this
      rwa [List.getD_eq_getElem?_getD, List.getElem?_eq_getElem hj] at this

set_option maxRecDepth 100000 in
set_option maxHeartbeats 1600000 in
theorem histSorted_num (ba : Option Addr) (bc : Nat) (bs : List Nat) (w : World) (hc : InCells w ba bs) (hlen : bs.length ≤ 1048577) (hnum : ∀ b ∈ bs, Fl.isNaN b = false) :
    Calls Tryz.prog 29 #[.slice ba bs.length bc] w fun e w' => ((e = .returned (.bool true) ∧ Asc bs) ∨ (e = .returned (.bool false) ∧ ¬ Asc bs)) ∧ ∃ d, w' = w.drewN d := by
  have hlen' : (bs.length : Int) ≤ 1048577 := by omega
  have HNUM := Lib.hid hnum
  clear hnum
  go_enter Tryz.func29, Tryz.ntmps29
  go_wp2_with fail
  go_loopw [3] (fun i wr => ∃ (k d : Nat), k ≤ bs.length ∧ i = .int .i64 k ∧ wr = w.drewN d ∧ ∀ j, j + 1 < k → fge (wd bs j) (wd bs (j + 1)) = false) (fun i _ => bs.length - (intOf i).toNat)
  case atStart => exact ⟨0, 0, Nat.zero_le _, rfl, rfl, fun j hj => by omega⟩
  case round =>
    obtain ⟨k, d, hk, rfl, hwr, hold⟩ := hrel
    have HOLD := Lib.hid hold
    have HWR := Lib.hid hwr
    clear hold
    by_cases hkn : k < bs.length
    · rcases Nat.eq_zero_or_pos k with h0 | h0
      · subst h0
        obtain ⟨b, off, rfl, hcell⟩ := hc 0 hkn
        have hcell : wr.cell? ⟨b, off, none⟩ = some (.float .f64 (wd bs 0)) := by rw [hwr]; exact hcell
        have e1 := neq_self (HNUM.out _ (wd_mem hkn))
        have hnn : (0 : Int) < (bs.length : Int) := by omega
        clear hwr hk
        go_wp2_with fail
        go_quiet (fail)
        go_wp2_with fail
        go_roundw
        case rel => exact ⟨1, d + nq, by omega, rfl, by rw [HWR.out]; simp [World.drewN, Nat.add_assoc], fun j hj => by omega⟩
        case measure => simp [intOf]; omega
      · obtain ⟨j, rfl⟩ : ∃ j, k = j + 1 := ⟨k - 1, by omega⟩
        obtain ⟨b, off, rfl, hc1⟩ := hc (j + 1) hkn
        obtain ⟨b', off', he, hc0⟩ := hc j (by omega)
        simp only [Option.some.injEq, Addr.mk.injEq, and_true] at he
        obtain ⟨rfl, rfl⟩ := he
        have hc1 : wr.cell? ⟨b, off + (j + 1), none⟩ = some (.float .f64 (wd bs (j + 1))) := by rw [hwr]; exact hc1
        have hc0 : wr.cell? ⟨b, off + j, none⟩ = some (.float .f64 (wd bs j)) := by rw [hwr]; exact hc0
        have e1 := neq_self (HNUM.out _ (wd_mem hkn))
        have hj1 : (j : Int) + 1 < (bs.length : Int) := by omega
        have hj0 : (j : Int) < (bs.length : Int) := by omega
        have hjp : (0 : Int) ≤ (j : Int) := by omega
        have hjq : (0 : Int) ≤ (j : Int) + 1 := by omega
        have hjr : (0 : Int) < (j : Int) + 1 := by omega
        clear hwr hk
        cases hG : fge (wd bs j) (wd bs (j + 1)) with
        | false =>
          have e2 : (FloatKind.f64.format.order (wd bs j) (wd bs (j + 1)) == some .gt || FloatKind.f64.format.order (wd bs j) (wd bs (j + 1)) == some .eq) = false := hG
          have HGG := Lib.hid hG
          clear hG
          go_wp2_with fail
          go_quiet (fail)
          go_wp2_with fail
          go_roundw
          case rel => exact ⟨j + 1 + 1, d + nq, by omega, by go_num, by rw [HWR.out]; simp [World.drewN, Nat.add_assoc], fun i hi => by
            by_cases h : i + 1 < j + 1
            · exact HOLD.out i h
            · have : i = j := by omega
              rw [this]; exact HGG.out⟩
          case measure => simp [intOf]; omega
        | true =>
          have e2 : (FloatKind.f64.format.order (wd bs j) (wd bs (j + 1)) == some .gt || FloatKind.f64.format.order (wd bs j) (wd bs (j + 1)) == some .eq) = true := hG
          have HGG := Lib.hid hG
          clear hG
          go_wp2_with fail
          go_quiet (fail)
          go_wp2_with fail
          go_ret
          exact ⟨.inr ⟨rfl, fun h => by have := h j hkn; rw [HGG.out] at this; cases this⟩, d + nq, by rw [HWR.out]; simp [World.drewN, Nat.add_assoc]⟩
    · have hke : k = bs.length := by omega
      subst hke
      have hk1 : ¬ (bs.length : Int) < (bs.length : Int) := by omega
      clear hkn hk hwr
      go_wp2_with fail
      go_ret
      exact ⟨.inl ⟨rfl, fun i hi => HOLD.out i hi⟩, d, HWR.out⟩
end Go.Proofs.YtebjclmbacmilaaGreatDoor

namespace Go.Proofs.YtebjclmbacmilaaGreatDoor
open Go.RowKit

set_option maxRecDepth 100000 in
theorem sameNum_any (a b : Nat) (w : World) : Calls Tryz.prog 23 #[.float .f64 a, .float .f64 b] w fun e w' => e = .returned (.bool (feq a b || (Fl.isNaN a && Fl.isNaN b))) ∧ w' = w := by
  cases h1 : feq a b with
  | true =>
    have e1 : (FloatKind.f64.format.order a b == some .eq) = true := h1
    clear h1
    go_enter Tryz.func23, Tryz.ntmps23
    go_wp2
    all_goals
      go_ret
      exact ⟨rfl, rfl⟩
  | false =>
    have e1 : (FloatKind.f64.format.order a b == some .eq) = false := h1
    clear h1
    cases h2 : Fl.isNaN a with
    | false =>
      have e2 := neq_self h2
      clear h2
      go_enter Tryz.func23, Tryz.ntmps23
      go_wp2
      all_goals
        go_ret
        exact ⟨rfl, rfl⟩
    | true =>
      have e2 := neq_nan h2
      clear h2
      cases h3 : Fl.isNaN b with
      | false =>
        have e3 := neq_self h3
        clear h3
        go_enter Tryz.func23, Tryz.ntmps23
        go_wp2
        all_goals
          go_ret
          exact ⟨rfl, rfl⟩
      | true =>
        have e3 := neq_nan h3
        clear h3
        go_enter Tryz.func23, Tryz.ntmps23
        go_wp2
        all_goals
          go_ret
          exact ⟨rfl, rfl⟩
end Go.Proofs.YtebjclmbacmilaaGreatDoor

namespace Go.Proofs.YtebjclmbacmilaaGreatDoor
open Go.RowKit

set_option maxRecDepth 100000 in
theorem histInf_any (x : Nat) (w : World) : Calls Tryz.prog 48 #[.float .f64 x] w fun e w' => e = .returned (.bool (fgt x 9218868437227405311 || flt x 18442240474082181119)) ∧ w' = w := by
  cases h1 : fgt x 9218868437227405311 with
  | true =>
    have e1 : (FloatKind.f64.format.order x 9218868437227405311 == some .gt) = true := h1
    clear h1
    go_enter Tryz.func48, Tryz.ntmps48
    go_wp2
    all_goals
      go_ret
      exact ⟨rfl, rfl⟩
  | false =>
    have e1 : (FloatKind.f64.format.order x 9218868437227405311 == some .gt) = false := h1
    clear h1
    cases h2 : flt x 18442240474082181119 with
    | true =>
      have e2 : (FloatKind.f64.format.order x 18442240474082181119 == some .lt) = true := h2
      clear h2
      go_enter Tryz.func48, Tryz.ntmps48
      go_wp2
      all_goals
        go_ret
        exact ⟨rfl, rfl⟩
    | false =>
      have e2 : (FloatKind.f64.format.order x 18442240474082181119 == some .lt) = false := h2
      clear h2
      go_enter Tryz.func48, Tryz.ntmps48
      go_wp2
      all_goals
        go_ret
        exact ⟨rfl, rfl⟩

theorem cut_pos {bs : List Nat} (h : 0 < bs.length) : cutBs bs = if fgt (wd bs (bs.length - 1)) 9218868437227405311 = true then bs.dropLast else bs := by
  unfold cutBs
  by_cases hg : fgt (wd bs (bs.length - 1)) 9218868437227405311 = true
  · rw [if_pos ⟨h, hg⟩, if_pos hg]
  · rw [if_neg (fun k => hg k.2), if_neg hg]
theorem key_max : Fl.key 9218868437227405311 = 9218868437227405311 ∧ Fl.key 0 = 0 ∧ Fl.key 18442240474082181119 = -9218868437227405311 := by decide +kernel

set_option maxRecDepth 100000 in
set_option maxHeartbeats 1600000 in
theorem histBounds_native (ba : Option Addr) (bc : Nat) (bs : List Nat) (w : World) (hc : InCells w ba bs) (hlen : bs.length ≤ 1048577) (hcp : bs.length ≤ bc) (hnil : bs = [] → ba = none ∧ bc = 0) :
    Calls Tryz.prog 22 #[.slice ba bs.length bc, .bool true] w fun e w' => e = .returned (.slice ba (cutBs bs).length bc) ∧ w' = w := by
  have hlen' : (bs.length : Int) ≤ 1048577 := by omega
  rcases Nat.eq_zero_or_pos bs.length with h0 | h0
  · have hb : bs = [] := List.length_eq_zero_iff.1 h0
    obtain ⟨rfl, rfl⟩ := hnil hb
    subst hb
    clear hc hlen hcp hnil h0
    go_enter Tryz.func22, Tryz.ntmps22
    go_wp2
    all_goals
      go_ret
      exact ⟨rfl, rfl⟩
  · obtain ⟨m, hm⟩ : ∃ m, bs.length = m + 1 := ⟨bs.length - 1, by omega⟩
    obtain ⟨b, off, rfl, hx⟩ := hc m (by omega)
    have hcut := cut_pos h0
    rw [hm, Nat.add_sub_cancel] at hcut
    have HCUT := Lib.hid hcut
    have hm0 : (0 : Int) ≤ (m : Int) := by omega
    have hm1 : (m : Int) < (m : Int) + 1 := by omega
    have hje : (((m : Int) + 1) == 0) = false := by rw [beq_eq_false_iff_ne]; omega
    have HM := Lib.hid hm
    rw [hm] at hcp hlen' ⊢
    have hcp' : ((m : Int) + 1) ≤ (bc : Int) := by omega
    clear hc hnil hcut h0 hlen hm
    cases hP : fgt (wd bs m) 0 with
    | false =>
      have e1 : (FloatKind.f64.format.order (wd bs m) 0 == some .gt) = false := hP
      have HF : Hid ((cutBs bs).length = m + 1) := Lib.hid (by
        rw [HCUT.out, if_neg (fun h => by
          obtain ⟨a, _, c⟩ := (fgt_iff _ _).1 h
          have : fgt (wd bs m) 0 = true := (fgt_iff _ _).2 ⟨a, by decide +kernel, by rw [key_max.1] at c; rw [key_max.2.1]; omega⟩
          rw [hP] at this; cases this), HM.out])
      clear hP
      go_enter Tryz.func22, Tryz.ntmps22
      go_wp2_with fail
      go_ret
      exact ⟨by rw [HF.out]; simp, rfl⟩
    | true =>
      have e1 : (FloatKind.f64.format.order (wd bs m) 0 == some .gt) = true := hP
      have hlt : flt (wd bs m) 18442240474082181119 = false := by
        cases h : flt (wd bs m) 18442240474082181119 with
        | false => rfl
        | true =>
          obtain ⟨_, _, c⟩ := (flt_iff _ _).1 h
          obtain ⟨_, _, d⟩ := (fgt_iff _ _).1 hP
          rw [key_max.2.2] at c; rw [key_max.2.1] at d; omega
      have HI := Lib.hid (histInf_any (wd bs m) w)
      rw [hlt, Bool.or_false] at HI
      clear hP hlt
      cases hG : fgt (wd bs m) 9218868437227405311 with
      | true =>
        rw [hG] at HI
        have HF : Hid ((cutBs bs).length = m) := Lib.hid (by rw [HCUT.out, if_pos hG, List.length_dropLast, HM.out]; rfl)
        clear hG
        go_enter Tryz.func22, Tryz.ntmps22
        go_wp2_with fail
        refine HI.out.mono ?_
        rintro e w1 ⟨rfl, rfl⟩
        go_wp2_with fail
        go_ret
        exact ⟨by rw [HF.out]; simp, rfl⟩
      | false =>
        rw [hG] at HI
        have HF : Hid ((cutBs bs).length = m + 1) := Lib.hid (by rw [HCUT.out, if_neg (by rw [hG]; decide), HM.out])
        clear hG
        go_enter Tryz.func22, Tryz.ntmps22
        go_wp2_with fail
        refine HI.out.mono ?_
        rintro e w1 ⟨rfl, rfl⟩
        go_wp2_with fail
        go_ret
        exact ⟨by rw [HF.out]; simp, rfl⟩
/-- The same for any slice: without bounds it answers nil. -/
theorem histBounds_cut (ba : Option Addr) (bc : Nat) (bs : List Nat) (w : World) (hc : InCells w ba bs) (hlen : bs.length ≤ 1048577) (hcp : bs.length ≤ bc) :
    Calls Tryz.prog 22 #[.slice ba bs.length bc, .bool true] w fun e w' => ∃ a' c', e = .returned (.slice a' (cutBs bs).length c') ∧ w' = w ∧ (a' = ba ∧ c' = bc ∨ a' = none ∧ c' = 0 ∧ cutBs bs = []) := by
  rcases Nat.eq_zero_or_pos bs.length with h0 | h0
  · have hb : bs = [] := List.length_eq_zero_iff.1 h0
    subst hb
    have e0 : cutBs [] = [] := by unfold cutBs; rw [if_neg (by rintro ⟨h, _⟩; exact absurd h (Nat.lt_irrefl 0))]
    rw [e0]
    clear hc hlen hcp h0 e0
    go_enter Tryz.func22, Tryz.ntmps22
    go_wp2
    all_goals
      go_ret
      exact ⟨none, 0, rfl, rfl, .inr (by simp)⟩
  · refine (histBounds_native ba bc bs w hc hlen hcp (fun h => by subst h; exact absurd h0 (Nat.lt_irrefl 0))).mono ?_
    rintro e w' ⟨rfl, rfl⟩
    exact ⟨ba, bc, rfl, rfl, .inl ⟨rfl, rfl⟩⟩
end Go.Proofs.YtebjclmbacmilaaGreatDoor

namespace Go.Proofs.YtebjclmbacmilaaGreatDoor
open Go.ChangeShapes Go.WideShapes Go.ChangeAt Go.RowKit Go.Deep

theorem and_both {a b : Bool} (ha : a = true) (hb : b = true) : (a && b) = true := by rw [ha, hb]; rfl
theorem bulk_one {H : Type} (d : DataW H) : 1 ≤ Rows.uptoBulk d := by
  cases d with
  | lit l => cases l <;> simp [Rows.uptoBulk]
  | nil => simp [Rows.uptoBulk]
  | ptr d => simp [Rows.uptoBulk]
  | slice elems spare => simp [Rows.uptoBulk]
  | agg parts => simp [Rows.uptoBulk]
  | iface t d => simp [Rows.uptoBulk]
  | map entries => simp [Rows.uptoBulk]
  | held h => simp [Rows.uptoBulk]
theorem bulk_len {H : Type} (l : List (DataW H)) : l.length ≤ Rows.uptoBulkAll l := by
  induction l with
  | nil => simp [Rows.uptoBulkAll]
  | cons x r ih => have := bulk_one x; simp only [Rows.uptoBulkAll, List.length_cons]; omega

theorem laidOut : laidOutB Tryz.prog = true := by kernel_rfl
theorem cells25 : Tryz.prog.cellsOf 25 = 1 := by kernel_rfl

set_option maxRecDepth 100000 in
/-- A slice of floats that came in. -/
theorem open_floats {H : Type} {enc : TypeId × Value → H} {W : World} {b0 : Nat} {v : Value} {d : DataW H} {p : List MemPlace} (hval : Value.okWide Tryz.prog W .any b0 22 v) (hd : DataW.Trod enc Tryz.prog W 0 (fun _ => true) true 22 v d p) :
    ∃ (ba : Option Addr) (bc : Nat) (bs : List Nat), v = .slice ba bs.length bc ∧ InCells W ba bs ∧ SrcIs W (.slice ba bs.length bc) 1 bs.length (f64s bs) ∧ bs.length ≤ Rows.uptoBulk d := by
  obtain ⟨a0, len, cap, rfl⟩ := okWide_slice Tryz.underlying22 hval
  obtain ⟨fuel, hf⟩ := hd
  rcases open_slice1 Tryz.underlying22 cells25 hf with ⟨hcs, _⟩ | ⟨a, len', cap', m, n, V, D, Pl, hcs, _, hl, hm, hmm, hx, hV⟩
  · simp [Value.cells] at hcs
    obtain ⟨rfl, rfl, rfl⟩ := hcs
    exact ⟨none, 0, [], rfl, fun i hi => by simp at hi, .inl ⟨rfl, rfl, rfl⟩, Nat.zero_le _⟩
  · simp [Value.cells] at hcs
    obtain ⟨rfl, rfl, rfl⟩ := hcs
    simp only [if_true] at hmm
    have hfl : ∀ i, i < m → ∃ b, V i = .float .f64 b := fun i hi => by
      have h := (hV i hi).2
      cases n with
      | zero => simp [DataW.trod] at h
      | succ n =>
        cases hv : V i <;> simp [DataW.trod, Tryz.underlying25, hv] at h
        rename_i k b
        exact ⟨b, by rw [h.1.1]⟩
    obtain ⟨B, hB⟩ := choose_lt (α := Nat) (p := fun i b => V i = .float .f64 b) hfl
    have hin : InCells W (some a) ((List.range len).map B) := fun i hi => by
      simp only [List.length_map, List.length_range] at hi
      have h0 := (hV i (by omega)).1
      rw [hB i (by omega)] at h0
      obtain ⟨b, off, spot⟩ := a
      have hspot : spot = none := by
        have h1 := (hV 0 (by omega)).1
        simpa [Addr.add] using World.cell?_spot h1
      subst hspot
      refine ⟨b, off, rfl, ?_⟩
      rw [Go.WideShapes.add_plain] at h0
      rw [h0]
      simp [wd, List.getD_eq_getElem?_getD, hi]
    have hlen : ((List.range len).map B).length = len := by simp
    refine ⟨some a, cap, (List.range len).map B, by rw [hlen], hin, ?_, ?_⟩
    · rw [hlen]
      refine .inr ⟨a, cap, rfl, by simp [f64s], fun j u hj => ?_⟩
      have hjl : j < len := by
        by_cases h : j < len
        · exact h
        · rw [List.getElem?_eq_none (by simp [f64s]; omega)] at hj; cases hj
      have h0 := (hV j (by omega)).1
      rw [hB j (by omega)] at h0
      rw [h0]
      simp [f64s, hjl] at hj
      rw [← hj]
    · simp only [Prod.mk.injEq] at hx
      rw [hx.1, hlen]
      have := bulk_len ((List.range len).map D)
      simp only [List.length_map, List.length_range] at this
      simp only [Rows.uptoBulk]
      omega

/-- A witness in a world of the row's own list. -/
theorem witness_laid {H : Type} {enc : TypeId × Value → H} {os : Os} {f : FuncId} {fn : Func} {s : OpenSpec} {conds : List PathCond} {apart : Bool} {laid : List (String × DataW Unit)} (w0 : World) (args : Array Value) (hos : w0.os = os)
    (hsh : (w0.forCall (fun _ _ => 0) ⟨#[], args, []⟩).Shaped Tryz.checked.prog)
    (hok : Input.okWideB Tryz.checked.prog (w0.forCall (fun _ _ => 0) ⟨#[], args, []⟩) f ⟨#[], args, []⟩ = true)
    (hrow : s.preRow enc Tryz.checked.prog fn conds apart laid (w0.forCall (fun _ _ => 0) ⟨#[], args, []⟩).memory args) :
    ∃ (w : World) (tape : Tape) (i : Input), w.os = os ∧ (w.forCall tape i).Shaped Tryz.checked.prog ∧ i.vars = [] ∧ Input.okWide Tryz.checked.prog (w.forCall tape i) .any w.heap.size f i ∧
      s.preRow enc Tryz.checked.prog fn conds apart laid (w.forCall tape i).memory i.args ∧ ({ } : Assume).holds Tryz.checked.prog (lone (Frame.enter Tryz.checked.prog f i.args .normal) [] (w.forCall tape i)) :=
  ⟨w0, fun _ _ => 0, ⟨#[], args, []⟩, hos, hsh, (Input.okWide_of_okWideB (base := 0) hok).1, (Input.okWide_of_okWideB hok).2, hrow, by
    simp only [Assume.holds]
    exact ⟨by simp, by simp, fun _ => Modest.zero, by simp, by simp⟩⟩
end Go.Proofs.YtebjclmbacmilaaGreatDoor

namespace Go.Proofs.YtebjclmbacmilaaGreatDoor
open Go.ChangeShapes Go.WideShapes Go.ChangeAt Go.RowKit Go.Deep

set_option maxRecDepth 100000 in
/-- A slice of floats that came in. -/
theorem open_floats64 {H : Type} {enc : TypeId × Value → H} {W : World} {b0 : Nat} {v : Value} {d : DataW H} {p : List MemPlace} (hval : Value.okWide Tryz.prog W .any b0 22 v) (hd : DataW.Trod enc Tryz.prog W 0 (fun _ => true) true 22 v d p) :
    ∃ (ba : Option Addr) (bc : Nat) (bs : List Nat), v = .slice ba bs.length bc ∧ InCells W ba bs ∧ SrcIs W (.slice ba bs.length bc) 1 bs.length (f64s bs) ∧ bs.length ≤ Rows.uptoBulk d ∧ ∀ x ∈ bs, x < 18446744073709551616 := by
  obtain ⟨a0, len, cap, rfl⟩ := okWide_slice Tryz.underlying22 hval
  obtain ⟨fuel, hf⟩ := hd
  rcases open_slice1 Tryz.underlying22 cells25 hf with ⟨hcs, _⟩ | ⟨a, len', cap', m, n, V, D, Pl, hcs, _, hl, hm, hmm, hx, hV⟩
  · simp [Value.cells] at hcs
    obtain ⟨rfl, rfl, rfl⟩ := hcs
    exact ⟨none, 0, [], rfl, fun i hi => by simp at hi, .inl ⟨rfl, rfl, rfl⟩, Nat.zero_le _, fun _ h => by cases h⟩
  · simp [Value.cells] at hcs
    obtain ⟨rfl, rfl, rfl⟩ := hcs
    simp only [if_true] at hmm
    have hfl : ∀ i, i < m → ∃ b, V i = .float .f64 b ∧ b < 18446744073709551616 := fun i hi => by
      have h := (hV i hi).2
      cases n with
      | zero => simp [DataW.trod] at h
      | succ n =>
        cases hv : V i <;> simp [DataW.trod, Tryz.underlying25, hv] at h
        rename_i k b
        exact ⟨b, by rw [h.1.1], by
          have hw := h.1.2
          simpa [Lit.wf] using hw⟩
    obtain ⟨B, hB⟩ := choose_lt (α := Nat) (p := fun i b => V i = .float .f64 b ∧ b < 18446744073709551616) hfl
    have hin : InCells W (some a) ((List.range len).map B) := fun i hi => by
      simp only [List.length_map, List.length_range] at hi
      have h0 := (hV i (by omega)).1
      rw [(hB i (by omega)).1] at h0
      obtain ⟨b, off, spot⟩ := a
      have hspot : spot = none := by
        have h1 := (hV 0 (by omega)).1
        simpa [Addr.add] using World.cell?_spot h1
      subst hspot
      refine ⟨b, off, rfl, ?_⟩
      rw [Go.WideShapes.add_plain] at h0
      rw [h0]
      simp [wd, List.getD_eq_getElem?_getD, hi]
    have hlen : ((List.range len).map B).length = len := by simp
    refine ⟨some a, cap, (List.range len).map B, by rw [hlen], hin, ?_, ?_, fun x hx' => ?_⟩
    · rw [hlen]
      refine .inr ⟨a, cap, rfl, by simp [f64s], fun j u hj => ?_⟩
      have hjl : j < len := by
        by_cases h : j < len
        · exact h
        · rw [List.getElem?_eq_none (by simp [f64s]; omega)] at hj; cases hj
      have h0 := (hV j (by omega)).1
      rw [(hB j (by omega)).1] at h0
      rw [h0]
      simp [f64s, hjl] at hj
      rw [← hj]
    · simp only [Prod.mk.injEq] at hx
      rw [hx.1, hlen]
      have := bulk_len ((List.range len).map D)
      simp only [List.length_map, List.length_range] at this
      simp only [Rows.uptoBulk]
      omega
    · obtain ⟨i, hi, rfl⟩ := List.mem_map.1 hx'
      exact (hB i (by have := List.mem_range.1 hi; omega)).2
end Go.Proofs.YtebjclmbacmilaaGreatDoor
