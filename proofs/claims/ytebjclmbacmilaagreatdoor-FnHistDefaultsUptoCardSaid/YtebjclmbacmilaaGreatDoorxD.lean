/- The words of the walks (worlds that differ in some blocks alone), floating-point sums in the walk, and the contracts of the small functions that count an observation. Contracts of the search for a bucket: sort.SearchFloat64s, sort.Search, findBucket. Conditions: increasing bounds. -/
import Derived.Test.YtebjclmbacmilaaGreatDoorA
import Derived.Test.YtebjclmbacmilaaGreatDoorxG
import Derived.Test.YtebjclmbacmilaaGreatDoorC
import Derived.Deep.QuietTactic
import Derived.BigQuiet
namespace Go.Proofs.YtebjclmbacmilaaGreatDoor
open Go.RowKit

/-- r is what x + y yields: its word, or some NaN. -/
def AddTo (x y r : Nat) : Prop := Ieee.double.add x y = some r ∨ (Ieee.double.add x y = none ∧ (Ieee.double.read r).isNaN = true ∧ r < 2 ^ 64)

theorem nan_cut (x y t : Nat) : (Ieee.double.read (Question.cut (.nanBits .f64 x y) t)).isNaN = true ∧ Question.cut (.nanBits .f64 x y) t < 2 ^ 64 := by
  have e1 : Ieee.double.signWeight = 2 ^ 63 := rfl
  have e2 : Ieee.double.binade = 2 ^ 52 := rfl
  have e4 : Ieee.double.infRung = 2047 * 2 ^ 52 := rfl
  unfold Question.cut
  simp only
  generalize hu : (t / 2) % (2 ^ 52 - 1) = u
  have hlt : u < 2 ^ 52 - 1 := by rw [← hu]; exact Nat.mod_lt _ (by decide)
  generalize hv : t % 2 = v
  have hv2 : v < 2 := by omega
  constructor
  · unfold Ieee.Format.read
    simp only [e1, e2, e4]
    have hr : (v * 2 ^ 63 + 0x7ff0000000000000 + 1 + u) % 2 ^ 63 = 0x7ff0000000000000 + 1 + u := by omega
    rw [hr, if_neg (by omega), if_neg (by omega), if_neg (by omega)]
    rfl
  · omega

theorem run_float_add {P : Program} (t : TypeId) (x y : Nat) (w : World) :
    ∃ r n, AddTo x y r ∧ (binOp .add t (.float .f64 x) (.float .f64 y)).run P w = .ok (.float .f64 r) (w.drewN n) := by
  cases h : Ieee.double.add x y with
  | some r =>
    refine ⟨r, 0, .inl h, ?_⟩
    rw [run_float_arith w .add t .f64 x y r h]; rfl
  | none =>
    have := nan_cut x y (w.tape w.drawn (.nanBits .f64 x y))
    refine ⟨_, 1, .inr ⟨h, this⟩, ?_⟩
    have h' : FloatKind.f64.format.add x y = none := h
    simp [binOp, Op.floatArith, h', Sem.run, choose, Question.forced, World.drewN]

set_option maxHeartbeats 400000 in
theorem atomicAddFloat_any (a : Addr) (s v : Nat) (w : World) (hc : w.cell? a = some (.int .u64 s)) (hz : w.frozen? a = false) :
    Calls Tryz.prog 278 #[.pointer (some a), .float .f64 v] w fun e w' => ∃ r n, AddTo s v r ∧ e = .returned (.tuple #[]) ∧ w' = (w.drewN n).setCell a (.int .u64 (r : Nat)) := by
  obtain ⟨r, n, hadd, hrun⟩ := run_float_add (P := Tryz.prog) 25 s v w
  have h1 := load_u64 hc
  have h2 := float_from (s : Int) w
  have h3 := float_bits r (w.drewN n)
  have h4 := cas_u64 (a := a) (x := (s : Int)) (y := (r : Int)) (w := w.drewN n) hc hz
  have HA := Lib.hid hadd
  clear hadd
  go_enter Tryz.func278, Tryz.ntmps278
  go_wp2
  refine wp_loop_once ?_
  go_wp2
  go_end0
  exact ⟨r, n, HA.out, rfl, rfl⟩

theorem wrap_u64_succ (x : Nat) (h : x + 1 < 2 ^ 64) : IntKind.u64.wrap ((x : Int) + 1) = (x : Int) + 1 := by
  have : ((x : Int) + 1) = ((x + 1 : Nat) : Int) := by omega
  rw [this]
  show (((x + 1 : Nat) : Int) % 2 ^ 64) = _
  omega

/-- One more in a counter that does not wrap. -/
theorem incr_u64 {a : Addr} {x : Nat} {w : World} (hc : w.cell? a = some (.int .u64 x)) (hz : w.frozen? a = false) (hx : x + 1 < 2 ^ 64) :
    (callFunc 246 #[.pointer (some a), .int .u64 1]).run Tryz.prog w = .ok (.value (.int .u64 ((x : Int) + 1))) (w.setCell a (.int .u64 ((x : Int) + 1))) := by
  have := add_u64 (y := 1) hc hz
  rw [wrap_u64_succ x hx] at this
  exact this
end Go.Proofs.YtebjclmbacmilaaGreatDoor

namespace Go.Proofs.YtebjclmbacmilaaGreatDoor
open Go.RowKit

set_option maxHeartbeats 400000 in
theorem searchFn_any (i p q u o n cap b v : Nat) (w : World) (hi : i < n) (cp : w.cell? ⟨p, 0, none⟩ = some (.slice (some ⟨u, o, none⟩) n cap))
    (cq : w.cell? ⟨q, 0, none⟩ = some (.float .f64 v)) (cb : w.cell? ⟨u, o + i, none⟩ = some (.float .f64 b)) :
    Calls Tryz.prog 286 #[.int .i64 i, .pointer (some ⟨p, 0, none⟩), .pointer (some ⟨q, 0, none⟩)] w fun e w' => e = .returned (.bool (fge b v)) ∧ ∃ d, w' = w.drewN d := by
  have hi0 : (0 : Int) ≤ (i : Int) := by omega
  have hi1 : (i : Int) < (n : Int) := by omega
  go_enter Tryz.func286, Tryz.ntmps286
  go_wp2
  go_quiet (fail)
  go_wp2
  go_ret
  exact ⟨rfl, nq, rfl⟩

set_option maxHeartbeats 400000 in
theorem search_any (p q u o n cap v : Nat) (bs : List Nat) (w : World) (hn : bs.length = n) (hlt : n ≤ 2 ^ 62) (cp : w.cell? ⟨p, 0, none⟩ = some (.slice (some ⟨u, o, none⟩) n cap))
    (cq : w.cell? ⟨q, 0, none⟩ = some (.float .f64 v)) (cb : ∀ i, i < n → w.cell? ⟨u, o + i, none⟩ = some (.float .f64 (bs.getD i 0))) :
    Calls Tryz.prog 285 #[.int .i64 n, .func (.func 286) #[] #[.pointer (some ⟨p, 0, none⟩), .pointer (some ⟨q, 0, none⟩)]] w fun e w' =>
      e = .returned (.int .i64 (fsAt bs v 0 n)) ∧ ∃ d, w' = w.drewN d := by
  have hlt' : (n : Int) ≤ 4611686018427387904 := by omega
  clear hn hlt
  go_enter Tryz.func285, Tryz.ntmps285
  go_wp2
  go_loopw [5, 6] (fun a b wr => ∃ i j d : Nat, i ≤ j ∧ j ≤ n ∧ a = .int .i64 i ∧ b = .int .i64 j ∧ fsAt bs v i j = fsAt bs v 0 n ∧ wr = w.drewN d)
    (fun a b _ => (intOf b).toNat - (intOf a).toNat)
  case atStart => exact ⟨0, n, 0, by omega, by omega, rfl, rfl, rfl, rfl⟩
  case round =>
    obtain ⟨i, j, d, hij, hjn, rfl, rfl, hbs, rfl⟩ := hrel
    have HB := Lib.hid hbs
    clear hbs
    have hi0 : (0 : Int) ≤ (i : Int) := by omega
    have hj0 : (j : Int) ≤ (n : Int) := by omega
    by_cases hc : i < j
    · have hc' : (i : Int) < (j : Int) := by omega
      go_wp2_with fail
      obtain ⟨m, hm⟩ : ∃ m : Nat, m = (i + j) / 2 := ⟨_, rfl⟩
      have em : ((i : Int) + (j : Int)) / 2 = (m : Int) := by omega
      have hmj : m < j := by omega
      have him : i ≤ m := by omega
      rw [em]
      have HS : fsAt bs v i j = if fge (bs.getD m 0) v then fsAt bs v i m else fsAt bs v (m + 1) j := by
        rw [fsAt_lt hc, ← hm]
      refine (searchFn_any m p q u o n cap (bs.getD m 0) v (w.drewN d) (by omega) cp cq (cb m (by omega))).mono ?_
      rintro e w' ⟨rfl, d', rfl⟩
      have HS' := Lib.hid HS
      clear HS em
      have HM := Lib.hid hm
      clear hm
      have hm0 : (m : Int) < 4611686018427387904 := by omega
      cases hp : fge (bs.getD m 0) v
      · go_wp2_with fail
        go_roundw
        case rel => exact ⟨m + 1, j, d + d', by omega, hjn, by go_num, rfl, by rw [← HB.out, HS'.out, hp]; rfl, by simp [World.drewN]⟩
        case measure => simp [intOf]; omega
      · go_wp2_with fail
        go_roundw
        case rel => exact ⟨i, m, d + d', by omega, by omega, rfl, rfl, by rw [← HB.out, HS'.out, hp]; rfl, by simp [World.drewN]⟩
        case measure => simp [intOf]; omega
    · have hc' : ¬ (i : Int) < (j : Int) := by omega
      go_wp2_with fail
      go_ret
      have hfin : fsAt bs v i j = i := fsAt_ge hc
      refine ⟨?_, d, rfl⟩
      show Ending.returned (.int .i64 (i : Int)) = _
      rw [← HB.out, hfin]

set_option maxHeartbeats 400000 in
theorem searchFloat64s_any (u o n cap v : Nat) (bs : List Nat) (w : World) (hn : bs.length = n) (hlt : n ≤ 2 ^ 62) (cb : ∀ i, i < n → w.cell? ⟨u, o + i, none⟩ = some (.float .f64 (bs.getD i 0))) :
    Calls Tryz.prog 263 #[.slice (some ⟨u, o, none⟩) n cap, .float .f64 v] w fun e w' => e = .returned (.int .i64 (fsAt bs v 0 n)) ∧ Only (fun _ => False) w w' := by
  have hmf : ∀ (fn : Fn) (first cap : Array Value) (w : World), (Instr.makeFunc fn first cap).run Tryz.prog w = .ok (.func fn first cap) w := fun _ _ _ _ => rfl
  have hcb : ∀ i, i < n → ((w.alloc (.cells #[.slice (some ⟨u, o, none⟩) n cap] 22)).alloc (.cells #[.float .f64 v] 25)).cell? ⟨u, o + i, none⟩ = some (.float .f64 (bs.getD i 0)) := fun i hi => by
    have h := cb i hi
    have hlt := World.block_lt_of_cell? w _ h
    rw [World.cell?_alloc_lt _ _ _ (by simp; exact Nat.lt_succ_of_lt hlt), World.cell?_alloc_lt _ _ _ hlt]; exact h
  clear cb
  go_enter Tryz.func263, Tryz.ntmps263
  go_wp2_with fail
  refine (search_any _ _ u o n cap v bs _ hn hlt ?_ ?_ hcb).mono ?_
  · go_simp
  · go_simp
  rintro e w' ⟨rfl, d, rfl⟩
  go_wp2_with fail
  go_ret
  exact ⟨rfl, (((Only.refl _ w).alloc _).alloc _).drewN d⟩
/-- The i-th word of a list. -/
def wd (bs : List Nat) (i : Nat) : Nat := bs.getD i 0

set_option maxHeartbeats 400000 in
theorem findBucket_any (h u cap v : Nat) (bs : List Nat) (w : World) (hinc : Incr bs) (hlt : bs.length ≤ 2 ^ 62)
    (c7 : w.cell? ⟨h, 7, none⟩ = some (.slice (some ⟨u, 0, none⟩) bs.length cap)) (cb : ∀ i, i < bs.length → w.cell? ⟨u, i, none⟩ = some (.float .f64 (wd bs i))) :
    Calls Tryz.prog 242 #[.pointer (some ⟨h, 0, none⟩), .float .f64 v] w fun e w' => e = .returned (.int .i64 (place bs v)) ∧ Only (fun _ => False) w w' := by
  have hlt' : (bs.length : Int) ≤ 4611686018427387904 := by omega
  obtain ⟨n, hn⟩ : ∃ n, n = bs.length := ⟨_, rfl⟩
  rw [← hn] at c7 cb hlt'
  have HN := Lib.hid hn
  have HI := Lib.hid hinc
  have HL := Lib.hid hlt
  clear hn hinc hlt
  have HCB : Hid (∀ i, i < n → w.cell? ⟨u, i, none⟩ = some (.float .f64 (wd bs i))) := Lib.hid cb
  by_cases h0 : n = 0
  · subst h0
    clear cb HCB
    have hp : place bs v = 0 := by have := place_le bs v; have := HN.out; omega
    go_enter Tryz.func242, Tryz.ntmps242
    go_wp2
    go_ret
    exact ⟨by first | rfl | (rw [hp]; rfl), Only.refl _ _⟩
  · have hz : ((n : Int) == 0) = false := by rw [beq_eq_false_iff_ne]; omega
    have hpos : (0 : Int) < (n : Int) := by omega
    have cb0 := cb 0 (by omega)
    have cbl := cb (n - 1) (by omega)
    have el : ((n : Int) - 1) = ((n - 1 : Nat) : Int) := by omega
    have elo : (0 : Int) ≤ ((n - 1 : Nat) : Int) := by omega
    have eln : ((n - 1 : Nat) : Int) < (n : Int) := by omega
    clear cb
    cases hf0 : fle v (wd bs 0)
    · have HF0 := Lib.hid hf0
      cases hfl : fgt v (wd bs (n - 1))
      · unfold fle at hf0
        unfold fgt at hfl
        by_cases h35 : n < 35
        · have h35' : (n : Int) < 35 := by omega
          go_enter Tryz.func242, Tryz.ntmps242
          go_wp2
          go_loop [41] (fun i => ∃ k : Nat, k ≤ n ∧ i = .int .i64 k ∧ ∀ j, j < k → fle v (wd bs j) = false) (fun i => n - (intOf i).toNat)
          case atStart => exact ⟨0, Nat.zero_le _, rfl, fun _ hj => absurd hj (Nat.not_lt_zero _)⟩
          case round =>
            obtain ⟨k, hk, rfl, hno⟩ := hrel
            have HNO := Lib.hid hno
            clear hno
            by_cases hkn : k < n
            · have hk0 : (0 : Int) ≤ (k : Int) := by omega
              have hk1 : (k : Int) < (n : Int) := by omega
              have cbk := HCB.out k hkn
              cases hfk : fle v (wd bs k)
              · have HFK := Lib.hid hfk
                unfold fle at hfk
                go_wp2
                go_round
                case rel => exact ⟨k + 1, by omega, by go_num, fun j hj => by
                  rcases Nat.lt_or_ge j k with h' | h'
                  · exact HNO.out j h'
                  · have : j = k := by omega
                    subst this; exact HFK.out⟩
                case measure => simp [intOf]; omega
              · have hp : place bs v = k := place_of (by have := HN.out; omega) HNO.out (fun _ => hfk)
                unfold fle at hfk
                go_wp2
                all_goals
                  go_ret
                  exact ⟨by first | rfl | (rw [hp]; rfl), Only.refl _ _⟩
            · have hk1 : ¬ (k : Int) < (n : Int) := by omega
              have hp : place bs v = n := by rw [HN.out]; exact place_of (Nat.le_refl _) (fun j hj => HNO.out j (by have := HN.out; omega)) (fun h => absurd h (Nat.lt_irrefl _))
              go_wp2
              go_ret
              exact ⟨by first | rfl | (rw [hp]; rfl), Only.refl _ _⟩
        · have h35' : ¬ (n : Int) < 35 := by omega
          have hp : fsAt bs v 0 n = place bs v := by rw [HN.out]; exact fsAt_place HI.out
          have HP := Lib.hid hp
          clear hp
          go_enter Tryz.func242, Tryz.ntmps242
          go_wp2_with fail
          refine (searchFloat64s_any u 0 n cap v bs w HN.out.symm (by have := HL.out; have := HN.out; omega) (fun i hi => by rw [Nat.zero_add]; exact HCB.out i hi)).mono ?_
          rintro e w' ⟨rfl, ho⟩
          go_wp2_with fail
          go_ret
          exact ⟨by rw [← HP.out]; rfl, ho⟩
      · have hp : place bs v = n := by rw [HN.out]; exact place_last HI.out (by rw [← HN.out]; exact hfl)
        unfold fle at hf0
        unfold fgt at hfl
        go_enter Tryz.func242, Tryz.ntmps242
        go_wp2
        go_ret
        exact ⟨by first | rfl | (rw [hp]; rfl), Only.refl _ _⟩
    · have hp : place bs v = 0 := place_zero hf0
      unfold fle at hf0
      go_enter Tryz.func242, Tryz.ntmps242
      go_wp2
      all_goals
        go_ret
        exact ⟨by first | rfl | (rw [hp]; rfl), Only.refl _ _⟩
end Go.Proofs.YtebjclmbacmilaaGreatDoor
