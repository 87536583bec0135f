/- The contract of sort.Ints at this program, laid from the shelf, in plain words (tools/lay-plain.mjs out of what lay-shelf.mjs wrote). No conditions but those stated. sort.Ints of a list of the call's own; the keys of a map collected and sorted. Conditions: as stated. zzMap.Range: the keys of a map in order, a function called at each. Conditions: as stated. zzMap.Range of a map that may be nil; the list of its keys. Conditions: as stated. -/
import Derived.Shelf.Sort.Plain
import Derived.Test.YtebjclmbacmilaaGreatDoorProg
import Derived.Test.YtebjclmbacmilaaGreatDoorxNd
import Derived.Sort.OwnSortedInts
import Derived.Maps.RangeWalk
import Derived.Maps.AppendAt
import Derived.LoopN
import Derived.Test.YtebjclmbacmilaaGreatDoorxWl
import Derived.Test.YtebjclmbacmilaaGreatDoorHo
import Derived.Sort.KeysCollected
namespace Go.Proofs
open Go.Shelf
def Tryz.lays191_ren : Go.Shelf.Ren := ⟨fun | 191 => 269 | 189 => 296 | 125 => 133 | 257 => 318 | 128 => 150 | 129 => 151 | 294 => 322 | 295 => 323 | 296 => 324 | 297 => 325 | 298 => 326 | 299 => 327 | 216 => 328 | 300 => 329 | 301 => 330 | 328 => 333 | 329 => 199 | 330 => 200 | 331 => 334 | 332 => 335 | 215 => 336 | 343 => 337 | n => n, fun | 28 => 23 | 0 => 0 | 3 => 3 | 46 => 291 | 51 => 26 | 53 => 30 | 4 => 4 | 183 => 334 | 182 => 333 | 131 => 320 | 5 => 5 | 9 => 9 | 218 => 345 | 222 => 342 | 228 => 352 | 229 => 349 | n => n, fun | n => n⟩
theorem Tryz.lays191 : Go.Proofs.Lays.n191 Tryz.prog Tryz.lays191_ren := {
  mixed := by kernel_rfl
  f125 := Tryz.func133.trans (congrArg some (by kernel_rfl))
  f128 := Tryz.func150.trans (congrArg some (by kernel_rfl))
  f129 := Tryz.func151.trans (congrArg some (by kernel_rfl))
  f189 := Tryz.func296.trans (congrArg some (by kernel_rfl))
  f191 := Tryz.func269.trans (congrArg some (by kernel_rfl))
  f215 := Tryz.func336.trans (congrArg some (by kernel_rfl))
  f216 := Tryz.func328.trans (congrArg some (by kernel_rfl))
  f257 := Tryz.func318.trans (congrArg some (by kernel_rfl))
  f294 := Tryz.func322.trans (congrArg some (by kernel_rfl))
  f295 := Tryz.func323.trans (congrArg some (by kernel_rfl))
  f296 := Tryz.func324.trans (congrArg some (by kernel_rfl))
  f297 := Tryz.func325.trans (congrArg some (by kernel_rfl))
  f298 := Tryz.func326.trans (congrArg some (by kernel_rfl))
  f299 := Tryz.func327.trans (congrArg some (by kernel_rfl))
  f300 := Tryz.func329.trans (congrArg some (by kernel_rfl))
  f301 := Tryz.func330.trans (congrArg some (by kernel_rfl))
  f328 := Tryz.func333.trans (congrArg some (by kernel_rfl))
  f329 := Tryz.func199.trans (congrArg some (by kernel_rfl))
  f330 := Tryz.func200.trans (congrArg some (by kernel_rfl))
  f331 := Tryz.func334.trans (congrArg some (by kernel_rfl))
  f332 := Tryz.func335.trans (congrArg some (by kernel_rfl))
  f343 := Tryz.func337.trans (congrArg some (by kernel_rfl))
  t0 := Tryz.underlying0
  a0 := Tryz.isAgg0
  z0 := Tryz.sizeOf0
  v0 := Tryz.zeroValue0
  t3 := Tryz.underlying3
  a3 := Tryz.isAgg3
  z3 := Tryz.sizeOf3
  v3 := Tryz.zeroValue3
  t4 := Tryz.underlying4
  a4 := Tryz.isAgg4
  z4 := Tryz.sizeOf4
  v4 := Tryz.zeroValue4
  t5 := Tryz.underlying5
  a5 := Tryz.isAgg5
  z5 := Tryz.sizeOf5
  v5 := Tryz.zeroValue5
  t9 := Tryz.underlying9
  a9 := Tryz.isAgg9
  z9 := Tryz.sizeOf9
  v9 := Tryz.zeroValue9
  t28 := Tryz.underlying23
  a28 := Tryz.isAgg23
  z28 := Tryz.sizeOf23
  v28 := Tryz.zeroValue23
  t46 := Tryz.underlying291
  a46 := Tryz.isAgg291
  z46 := Tryz.sizeOf291
  v46 := Tryz.zeroValue291
  t51 := Tryz.underlying26
  a51 := Tryz.isAgg26
  z51 := Tryz.sizeOf26
  v51 := Tryz.zeroValue26
  t53 := Tryz.underlying30
  a53 := Tryz.isAgg30
  z53 := Tryz.sizeOf30
  v53 := Tryz.zeroValue30
  t131 := Tryz.underlying320
  a131 := Tryz.isAgg320
  z131 := Tryz.sizeOf320
  v131 := Tryz.zeroValue320
  t182 := Tryz.underlying333
  a182 := Tryz.isAgg333
  z182 := Tryz.sizeOf333
  v182 := Tryz.zeroValue333
  t183 := Tryz.underlying334
  a183 := Tryz.isAgg334
  z183 := Tryz.sizeOf334
  v183 := Tryz.zeroValue334
  t218 := Tryz.underlying345
  a218 := Tryz.isAgg345
  z218 := Tryz.sizeOf345
  v218 := Tryz.zeroValue345
  t222 := Tryz.underlying342
  a222 := Tryz.isAgg342
  z222 := Tryz.sizeOf342
  v222 := Tryz.zeroValue342
  t228 := Tryz.underlying352
  a228 := Tryz.isAgg352
  z228 := Tryz.sizeOf352
  v228 := Tryz.zeroValue352
  t229 := Tryz.underlying349
  a229 := Tryz.isAgg349
  z229 := Tryz.sizeOf349
  v229 := Tryz.zeroValue349 }
open Go.Sort Go.RowKit in
theorem Tryz.sort_Ints (blk off cap : Nat) (zs : List Int) (w : World) (hH : Holds (Value.int .i64) w blk off zs.toArray) (hblk : blk < w.heap.size) (hsz : zs.length < 4611686018427387904) :
    Calls Tryz.prog 269 #[.slice (some ⟨blk, off, none⟩) zs.length cap] w fun e w' =>
      e = .returned (.tuple #[]) ∧ ∃ n os, w' = grow (putRow (Value.int .i64) (Sort.ahead w n) blk off (zs.mergeSort fun x y => decide (x ≤ y)).toArray) os := Any.sort_Ints Tryz.lays191 blk off cap zs w hH hblk hsz
end Go.Proofs

namespace Go.Proofs.YtebjclmbacmilaaGreatDoor
open Go.RowKit

def i64s (l : List Int) : List Value := l.map (Value.int .i64)
def sortedI (l : List Int) : List Int := l.mergeSort fun x y => decide (x ≤ y)
theorem sortedI_len (l : List Int) : (sortedI l).length = l.length := List.length_mergeSort l
/-- sort.Ints of a list that is not nil. -/
theorem sortInts_own (B g cap : Nat) (zs : List Int) (w : World) (h : w.ownsRow B 3 1 (.slice (some ⟨g, 0, none⟩) zs.length cap) zs.length (i64s zs)) (hl : zs.length < 4611686018427387904) :
    Calls Tryz.prog 269 #[.slice (some ⟨g, 0, none⟩) zs.length cap] w fun e w' => e = .returned (.tuple #[]) ∧ w'.ownsRow B 3 1 (.slice (some ⟨g, 0, none⟩) zs.length cap) zs.length (i64s (sortedI zs)) ∧ Only (fun k => k = g) w w' := by
  rcases h.2 with ⟨h0, _⟩ | ⟨g', cap', cur, hv, hB, hb, h1, h2, h3, h4⟩
  · cases h0
  · cases hv
    have hH := holds_of_blockI (ss := zs) hb (by rw [Nat.mul_one] at h4; exact h4)
    refine (Tryz.sort_Ints g 0 cap zs w hH (Array.getElem?_eq_some_iff.1 hb).1 hl).mono ?_
    rintro e w' ⟨rfl, n, os, rfl⟩
    exact ⟨rfl, ownsRow_sortedI (sortedI_len zs) hB hb h1 h2 h3, (Only.grown (grownBy_sortedI _)).mono (fun k _ e => by simpa using e.symm)⟩
end Go.Proofs.YtebjclmbacmilaaGreatDoor

namespace Go.Proofs.YtebjclmbacmilaaGreatDoor
open Go.RowKit Go.Maps

set_option maxRecDepth 100000 in
theorem insSort_nil (w : World) : Calls Tryz.prog 322 #[.slice none 0 0, .int .i64 0, .int .i64 0] w fun e w' => e = .returned (.tuple #[]) ∧ w' = w := by
  go_enter Tryz.func322, Tryz.ntmps322
  go_wp2_with fail
  refine wp_loop_rounds 1 ?_
  rw [rounds_succ]
  go_wp2_with fail
  go_end0
  exact ⟨rfl, rfl⟩
set_option maxRecDepth 100000 in
theorem pdq_nil (x : Int) (w : World) : Calls Tryz.prog 318 #[.slice none 0 0, .int .i64 0, .int .i64 0, .int .i64 x] w fun e w' => e = .returned (.tuple #[]) ∧ w' = w := by
  go_enter Tryz.func318, Tryz.ntmps318
  go_wp2_with fail
  refine wp_loop_rounds 1 ?_
  rw [rounds_succ]
  go_wp2_with fail
  refine (insSort_nil w).mono ?_
  rintro e w' ⟨rfl, hw⟩
  rw [hw]
  clear hw w'
  go_wp2_with fail
  exact bodyPost_ret (v := .tuple #[]) (by simp [results, Tryz.results318, go_sem]) rfl ⟨rfl, rfl⟩
theorem sort_nil (w : World) : Calls Tryz.prog 296 #[.slice none 0 0] w fun e w' => e = .returned (.tuple #[]) ∧ w' = w := by
  go_enter Tryz.func296, Tryz.ntmps296
  go_wp2_with fail
  refine (Tryz.bits_Len 0 w (by decide) (by decide)).mono ?_
  rintro e w' ⟨rfl, hw⟩
  rw [hw]
  clear hw w'
  go_wp2_with fail
  refine (pdq_nil _ w).mono ?_
  rintro e w' ⟨rfl, hw⟩
  rw [hw]
  clear hw w'
  go_wp2_with fail
  go_end0
  exact ⟨rfl, rfl⟩
theorem sortInts_nil (w : World) : Calls Tryz.prog 269 #[.slice none 0 0] w fun e w' => e = .returned (.tuple #[]) ∧ w' = w := by
  go_enter Tryz.func269, Tryz.ntmps269
  go_wp2_with fail
  refine (sort_nil w).mono ?_
  rintro e w' ⟨rfl, hw⟩
  rw [hw]
  clear hw w'
  go_wp2_with fail
  go_end0
  exact ⟨rfl, rfl⟩
/-- sort.Ints of a list of the call's own, nil or not. -/
theorem sortInts_any (B : Nat) (v : Value) (zs : List Int) (w : World) (h : w.ownsRow B 3 1 v zs.length (i64s zs)) (hl : zs.length < 4611686018427387904) :
    Calls Tryz.prog 269 #[v] w fun e w' => e = .returned (.tuple #[]) ∧ w'.ownsRow B 3 1 v zs.length (i64s (sortedI zs)) ∧ Only (fun k => v.ownBlock = some k) w w' := by
  rcases h.2 with ⟨hv, h0⟩ | ⟨g, cap, cur, rfl, _⟩
  · have hz : zs = [] := List.length_eq_zero_iff.1 h0
    subst hz
    subst hv
    refine (sortInts_nil w).mono ?_
    rintro e w' ⟨rfl, hw⟩
    rw [hw]
    exact ⟨rfl, by simpa [sortedI] using h, Only.refl _ _⟩
  · refine (sortInts_own B g cap zs w h hl).mono ?_
    rintro e w' ⟨rfl, h1, h2⟩
    exact ⟨rfl, h1, h2.mono (fun k _ e => by rw [e]; rfl)⟩
/-- These are the keys, each one once, in order. -/
def KeysOf (N : Int → Option Int) (ks : List Int) : Prop := ks.Pairwise (· < ·) ∧ ∀ k, k ∈ ks ↔ Wf k ∧ (N k).isSome = true
/-- What a walk over a map has met. -/
def CollI (D : DataW Unit) (left : Lit → Bool) (ss : List Int) : Prop := ss.Nodup ∧ ∀ x, x ∈ ss ↔ (Wf x ∧ has D (.int .i64 x) = true ∧ left (.int .i64 x) = false)
theorem CollI.start (D : DataW Unit) : CollI D (has D) [] := ⟨List.nodup_nil, fun x => by cases has D (.int .i64 x) <;> simp⟩
theorem CollI.step {D : DataW Unit} {left : Lit → Bool} {ss : List Int} (h : CollI D left ss) {x : Int} {y : DataW Unit} (hw : Wf x) (hlk : left (.int .i64 x) = true) (hat : ∀ zd, D.atKey (.int .i64 x) zd = y) :
    CollI D (fun z => left z && !z.sameKey (.int .i64 x)) (ss ++ [x]) := by
  have hhas : has D (.int .i64 x) = true := has_true_of_atKey hat
  have hnew : x ∉ ss := fun hx => by have := ((h.2 x).1 hx).2.2; rw [hlk] at this; cases this
  refine ⟨List.nodup_append.2 ⟨h.1, by simp, fun a ha b hb => by simp at hb; subst hb; exact fun e => hnew (e ▸ ha)⟩, fun y => ?_⟩
  by_cases hy : y = x
  · subst hy; simp [hhas, hw, Lit.sameKey]
  · simp [h.2 y, hy, Lit.sameKey]
theorem pair_le_trans : ∀ a b c : Int, decide (a ≤ b) = true → decide (b ≤ c) = true → decide (a ≤ c) = true := fun a b c h1 h2 => by simp only [decide_eq_true_eq] at *; omega
theorem pair_le_total : ∀ a b : Int, (decide (a ≤ b) || decide (b ≤ a)) = true := fun a b => by simp only [Bool.or_eq_true, decide_eq_true_eq]; omega
/-- Sorted, a list of all keys is the list. -/
theorem sorted_keys {N : Int → Option Int} {ks ss : List Int} (hk : KeysOf N ks) (hn : ss.Nodup) (hm : ∀ x, x ∈ ss ↔ Wf x ∧ (N x).isSome = true) : sortedI ss = ks := by
  have h1 : (sortedI ss).Pairwise (fun a b => decide (a ≤ b) = true) := List.pairwise_mergeSort pair_le_trans pair_le_total ss
  have h2 : ks.Pairwise (fun a b => decide (a ≤ b) = true) := hk.1.imp (fun h => by simp only [decide_eq_true_eq]; omega)
  have hkn : ks.Nodup := hk.1.imp (fun h e => by omega)
  have hp : (sortedI ss).Perm ks := (List.mergeSort_perm ss _).trans ((List.perm_ext_iff_of_nodup hn hkn).2 fun x => by rw [hm x, hk.2 x])
  refine List.Perm.eq_of_pairwise (le := fun a b => decide (a ≤ b) = true) (fun a b _ _ q1 q2 => ?_) h1 h2 hp
  simp only [decide_eq_true_eq] at q1 q2
  omega

def RangeRel (w : World) (b n : Nat) (D : DataW Unit) (v : Value) (wr : World) : Prop := ∃ (left : Lit → Bool) (cnt : Nat) (ss : List Int), wr.ranges Tryz.prog 3 ptrR b w.heap.size n D left cnt ∧ ss.length + cnt ≤ n ∧
  wr.ownsRow (w.heap.size + 1) 3 1 v ss.length (i64s ss) ∧ CollI D left ss ∧ Only (fun _ => False) w wr ∧ w.heap.size < wr.heap.size
theorem info3 : (Tryz.prog.info? 3).map (fun i => (i.zero, i.size, i.bytes)) = some (some (.int .i64 0), 1, 8) := by kernel_rfl

set_option maxRecDepth 100000 in
set_option maxHeartbeats 1600000 in
theorem zzRange (c off b n F : Nat) (caps : Array Value) (S T : Nat → Prop) (N : Int → Option Int) (ks : List Int) (w : World) (hb : w.cell? ⟨c, off, none⟩ = some (.map (some b))) (H : NIn w S b n N) (hn : n ≤ 17592186044414) (hks : KeysOf N ks) (hF : ∀ args w, (callFunc F args).run Tryz.prog w = .ok (.enter F args) w)
    (J : Nat → List Int → World → Prop) (hT : ∀ k, T k → k < w.heap.size) (start : ∀ w', Only (fun _ => False) w w' → J w'.heap.size [] w')
    (step : ∀ (M : Nat) (done : List Int) (k : Int) (rest : List Int) (w' : World), w.heap.size ≤ M → M ≤ w'.heap.size → ks = done ++ k :: rest → J M done w' → Only T w w' → w'.cell? ⟨c, off, none⟩ = some (.map (some b)) ∧ ∃ v, (Instr.lookup 249 (.map (some b)) (.int .i64 k) true).run Tryz.prog w' = .ok (.tuple #[v, .bool true]) w' ∧
      Calls Tryz.prog F (#[.int .i64 k, v] ++ caps) w' fun e w2 => e = .returned (.bool true) ∧ J M (done ++ [k]) w2 ∧ Only (fun j => T j ∨ M ≤ j) w' w2) :
    Calls Tryz.prog 255 #[.pointer (some ⟨c, off, none⟩), .func (.func F) #[] caps] w fun e w' => e = .returned (.tuple #[]) ∧ (∃ M, w.heap.size ≤ M ∧ J M ks w') ∧ Only T w w' := by
  obtain ⟨hm, D, G, hown, hhas, hat, hinj⟩ := H
  obtain ⟨i3, hi, hz0, hz1, hz2⟩ := info_parts info3
  have HH := Lib.hid (And.intro hhas (And.intro hks (And.intro hT (And.intro start step))))
  have HF := Lib.hid hF
  clear hhas hks hT start step hat hinj hF
  have hbl := hown.lt
  go_enter Tryz.func255, Tryz.ntmps255
  go_wp2_with (first | (at_range; refine wpList_range_own _ rfl _ 249 rfl 3 136 keyed3 Tryz.underlying249 ptrR b n D rfl hown ?_; intro w1 hrg0 hg0 hs0) | fail)
  go_frame
  go_loopw [4] (fun v wr => RangeRel w b n D v wr) (fun _ wr => wr.rangeLeft b w.heap.size)
  case atStart => exact ⟨_, _, [], hrg0, by simpa using hown.size_le, World.ownsRow_nil _ _ _ _, CollI.start D, (Only.grown hg0).mono (fun k _ e => by cases e), by omega⟩
  case round =>
    obtain ⟨left, cnt, ss, hrg, hcs, hrow, hC, ho, hsz⟩ := hrel
    obtain ⟨ta, tc, rfl⟩ := ownsRow_slice hrow
    go_wp2_with (first
      | (at_next; refine wpList_next_ranges _ rfl _ rfl 3 keyed3 ptrR (Value.int .i64) (id : Value → Value) (fun key kl hk => by obtain ⟨x, hx, _⟩ := Maps.keyOf_int_inv Tryz.underlying3 hk; exact ⟨x, hx⟩) (fun v y hv => ⟨v, rfl⟩) b w.heap.size n _ _ _ rfl hrg ?_ ?_)
      | fail)
    · intro hc0 hl0
      have hnd := hC.1
      have hmem : ∀ x, x ∈ ss ↔ Wf x ∧ (N x).isSome = true := fun x => by
        rw [hC.2 x, hl0 (.int .i64 x)]
        constructor
        · rintro ⟨h1, h2, _⟩; rw [HH.out.1 x h1] at h2; exact ⟨h1, h2⟩
        · rintro ⟨h1, h2⟩; rw [← HH.out.1 x h1] at h2; exact ⟨h1, h2, rfl⟩
      have hs : sortedI ss = ks := sorted_keys HH.out.2.1 hnd hmem
      have hlen : ss.length = ks.length := by rw [← hs, sortedI_len]
      have hne : ∀ j, (Value.slice ta ss.length tc).ownBlock = some j → w.heap.size < j := fun j hj => (hrow.lt j hj).1
      have HS := Lib.hid (sortInts_any _ _ ss wr hrow (by omega))
      have HN := Lib.hid (And.intro hne (And.intro ho (And.intro hlen hs)))
      clear hmem hnd hrow hne ho hs hC hl0 hrg hlen
      go_wp2_with fail
      refine HS.out.mono ?_
      rintro e w3 ⟨rfl, hrow3, ho3⟩
      clear HS
      have HR3 : Hid (w3.ownsRow (w.heap.size + 1) 3 1 (.slice ta ss.length tc) ss.length (i64s ks) ∧ Only (fun _ => False) w w3) := Lib.hid ⟨by have h := hrow3; rw [HN.out.2.2.2] at h; exact h, Only.widen HN.out.2.1 ho3 (fun j hj => by have := HN.out.1 j hj; omega)⟩
      clear hrow3 ho3
      go_wp2_with fail
      go_loopw [27] (fun i wr => ∃ (j : Nat), j ≤ ss.length ∧ i = .int .i64 j ∧ J w3.heap.size (ks.take j) wr ∧ Only T w wr ∧ w3.heap.size ≤ wr.heap.size ∧ wr.ownsRow (w.heap.size + 1) 3 1 (.slice ta ss.length tc) ss.length (i64s ks)) (fun i _ => ss.length - (intOf i).toNat)
      case atStart => exact ⟨0, Nat.zero_le _, rfl, by rw [List.take_zero]; exact HH.out.2.2.2.1 w3 HR3.out.2, HR3.out.2.mono (fun k _ e => e.elim), Nat.le_refl _, HR3.out.1⟩
      case round =>
        obtain ⟨j, hj, rfl, hJ, hoT, hsz3, hrow⟩ := hrel
        by_cases hjn : j < ss.length
        · have hj0 : (0 : Int) ≤ (j : Int) := by omega
          have hj1 : (j : Int) < (ss.length : Int) := by omega
          have hjk : j < ks.length := by rw [← HN.out.2.2.1]; exact hjn
          rcases hrow.2 with ⟨hv, h0⟩ | ⟨g, cap, cur, hv, _⟩
          · omega
          cases hv
          have hcell : wr.cell? ⟨g, j, none⟩ = some (.int .i64 ks[j]) := by
            have h := hrow.cells (g := g) rfl j (.int .i64 ks[j]) (by simp [i64s, hjk])
            rw [show (⟨g, 0, none⟩ : Addr).add j = ⟨g, j, none⟩ from by cases j <;> simp [Addr.add]] at h
            exact h
          have hst := HH.out.2.2.2.2 w3.heap.size (ks.take j) ks[j] (ks.drop (j + 1)) wr HR3.out.2.size hsz3 (by rw [List.getElem_cons_drop, List.take_append_drop]) hJ hoT
          obtain ⟨hcb, x, hlk, hcall⟩ := hst
          obtain ⟨kx, hkx⟩ : ∃ kx, kx = ks[j] := ⟨_, rfl⟩
          rw [← hkx] at hcell hlk hcall
          have HC := Lib.hid hcall
          have HK := Lib.hid (And.intro hkx (And.intro hrow (And.intro hoT hsz3)))
          clear hrow hJ hoT hcall hkx hj hsz3
          go_wp2_with fail
          rw [HF.out, Oper.upon_enter]
          refine HC.out.mono ?_
          rintro e w4 ⟨rfl, hJ4, ho4⟩
          have HNX : Hid (J w3.heap.size (ks.take (j + 1)) w4 ∧ Only T w w4 ∧ w3.heap.size ≤ w4.heap.size ∧ w4.ownsRow (w.heap.size + 1) 3 1 (.slice (some ⟨g, 0, none⟩) ss.length tc) ss.length (i64s ks)) := Lib.hid ⟨by
            rw [List.take_succ_eq_append_getElem hjk, ← HK.out.1]; exact hJ4, ((HK.out.2.2.1.mono (fun k _ e => Or.inl e)).trans ho4).mono (fun k hk e => e.resolve_right (by have := HR3.out.2.size; omega)), Nat.le_trans HK.out.2.2.2 ho4.size, ho4.ownsRow HK.out.2.1 (fun k hk hT => by
            rcases hT with hT | hT
            · have := HH.out.2.2.1 k hT; have := (HK.out.2.1.lt k hk).1; omega
            · have := (HR3.out.1.lt k hk).2; omega)⟩
          clear hJ4 ho4 HC
          go_wp2_with fail
          go_roundw
          case rel => exact ⟨j + 1, hjn, by go_num, HNX.out⟩
          case measure => simp [intOf]; omega
        · have hje : j = ss.length := by omega
          subst hje
          have hk1 : ¬ (ss.length : Int) < (ss.length : Int) := by omega
          have HFJ := Lib.hid (And.intro hJ hoT)
          clear hJ hoT hrow hjn hj
          go_wp2_with fail
          go_end0
          exact ⟨rfl, ⟨_, HR3.out.2.size, by have h := HFJ.out.1; rw [HN.out.2.2.1, List.take_length] at h; exact h⟩, HFJ.out.2⟩
    · intro x c kl yd yp w2 cnt2 hkey hlk hv hat hrg2 hlt hg2 hs2 hen
      obtain ⟨x', ex, rfl, hwx⟩ := Maps.keyOf_int_inv Tryz.underlying3 hkey
      cases ex
      have hne : ∀ j, (Value.slice ta ss.length tc).ownBlock = some j → w.heap.size < j := fun j hj => (hrow.lt j hj).1
      have hrow2 : w2.ownsRow (w.heap.size + 1) 3 1 (.slice ta ss.length tc) ss.length (i64s ss) := hrow.kept hg2 (Or.inr (fun e => by have := hne _ e; omega))
      have HL := Lib.hid (And.intro hlt (And.intro hs2 (And.intro hlk (And.intro hat hC))))
      have ho2 : Only (fun _ => False) w w2 := Only.widen ho (Only.grown hg2) (fun j hj => by simp only [Option.some.injEq] at hj; omega)
      have hsz2 : w.heap.size < w2.heap.size := by rw [hs2]; exact hsz
      have hcs2 : ss.length + cnt2 < n := by omega
      have HN := Lib.hid hne
      clear hs2 hlk hat hC hlt hne
      go_wp2_with (at_builtin; go_must (refine wpList_append_own _ rfl _ _ 23 rfl (w.heap.size + 1) 3 i3 _ 1 8 Tryz.underlying23 hi hz0 hz1 hz2 rfl (by decide) _ _ _ rfl (hrow2.alloc _) ⟨w2.heap.size, 0, none⟩ 1 1 [.int .i64 x] rfl rfl (cells_of (IsBlock.new w2 [.int .i64 x] 3)) (one_one _ rfl) ?c3 ?c4 ?c5 ?_))
      case c3 => unfold maxLen; omega
      case c4 => omega
      case c5 => rw [World.size_alloc]; omega
      intro v8 w8 hown8 hgr8 _
      have hb8 : some b ≠ (Value.slice ta ss.length tc).ownBlock := fun e => by have := HN.out b e.symm; omega
      have hr8 : some w.heap.size ≠ (Value.slice ta ss.length tc).ownBlock := fun e => by have := HN.out _ e.symm; omega
      have hrg3 := (hrg2.alloc _).kept hgr8 hb8 hr8
      have hge := hgr8.size
      rw [World.size_alloc] at hge
      have HNX : Hid (RangeRel w b n D v8 w8 ∧ w8.rangeLeft b w.heap.size < wr.rangeLeft b w.heap.size) := Lib.hid ⟨⟨_, cnt2, ss ++ [x], hrg3, by simp; omega, by simpa [i64s] using hown8, HL.out.2.2.2.2.step hwx HL.out.2.2.1 HL.out.2.2.2.1, Only.widen ho2 ((Only.alloc (Only.refl _ _) _).trans (Only.grown hgr8)) (fun j hj => by have := HN.out j hj; omega), by omega⟩, by
        rw [hrg3.left_eq, hrg.left_eq]; exact HL.out.1⟩
      clear hown8 hgr8 hrg3 hb8 hr8 hge hrg2 hrg
      go_wp2_with fail
      go_roundw
      case rel => exact HNX.out.1
      case measure => exact HNX.out.2
theorem enters275 : ∀ args w, (callFunc 275 args).run Tryz.prog w = .ok (.enter 275 args) w := Go.Proofs.enters_of Tryz.func275 (by kernel_rfl) rfl
theorem enters270 : ∀ args w, (callFunc 270 args).run Tryz.prog w = .ok (.enter 270 args) w := Go.Proofs.enters_of Tryz.func270 (by kernel_rfl) rfl
end Go.Proofs.YtebjclmbacmilaaGreatDoor

namespace Go.Proofs.YtebjclmbacmilaaGreatDoor
open Go.RowKit Go.Maps

def litI : Lit → Int
  | .int _ x => x
  | _ => 0
theorem keys_in {w : World} {S : Nat → Prop} {b n : Nat} {N : Int → Option Int} (H : NIn w S b n N) : ∃ ks, KeysOf N ks ∧ ks.length ≤ n := by
  obtain ⟨hm, D, G, hown, hhas, _, _⟩ := H
  obtain ⟨es, hD, hpw, _⟩ := hown.entries keyed3
  obtain ⟨es', hD', hko⟩ := hown.keysOf
  obtain rfl : es = es' := by rw [hD] at hD'; simpa using hD'
  have hk : ∀ p ∈ es, ∃ x, p.1 = .int .i64 x ∧ Wf x := fun p hp => by
    obtain ⟨v, hv⟩ := hko p hp
    obtain ⟨x, _, h2, h3⟩ := Maps.keyOf_int_inv Tryz.underlying3 hv
    exact ⟨x, h2, h3⟩
  have hnd : (es.map fun p => litI p.1).Nodup := by
    refine List.pairwise_map.2 (hpw.imp_of_mem fun {p q} hp' hq' hne e => hne ?_)
    obtain ⟨a, ha, _⟩ := hk p hp'
    obtain ⟨b, hb, _⟩ := hk q hq'
    rw [ha, hb] at e ⊢
    exact congrArg _ e
  have hmem : ∀ x, x ∈ (es.map fun p => litI p.1) ↔ Wf x ∧ (N x).isSome = true := fun x => by
    rw [List.mem_map]
    constructor
    · rintro ⟨p, hp', rfl⟩
      obtain ⟨a, ha, hwa⟩ := hk p hp'
      refine ⟨by rw [ha]; exact hwa, ?_⟩
      rw [← hhas _ (by rw [ha]; exact hwa), hD, has_eq, List.any_eq_true]
      exact ⟨p, hp', by rw [ha]; simp [Lit.sameKey, litI]⟩
    · rintro ⟨h1, h2⟩
      rw [← hhas x h1, hD, has_eq, List.any_eq_true] at h2
      obtain ⟨p, hp', hs⟩ := h2
      obtain ⟨a, ha, _⟩ := hk p hp'
      rw [ha] at hs
      exact ⟨p, hp', by rw [ha]; simpa [Lit.sameKey, litI] using hs⟩
  have hsz := hown.size_le
  rw [hD, size_eq] at hsz
  refine ⟨sortedI (es.map fun p => litI p.1), ⟨?_, fun x => ?_⟩, by rw [sortedI_len, List.length_map]; exact hsz⟩
  · have h1 : (sortedI (es.map fun p => litI p.1)).Pairwise (fun a b => decide (a ≤ b) = true) := List.pairwise_mergeSort pair_le_trans pair_le_total _
    have h2 : (sortedI (es.map fun p => litI p.1)).Nodup := (List.mergeSort_perm _ _).nodup_iff.2 hnd
    have h3 := List.Pairwise.and h1 h2
    exact h3.imp (fun {a b} h => by obtain ⟨q1, q2⟩ := h; simp only [decide_eq_true_eq] at q1; omega)
  · rw [← hmem x]
    exact (List.mergeSort_perm _ _).mem_iff
theorem keys_at {w : World} {S : Nat → Prop} {h : Option Nat} {n : Nat} {N : Int → Option Int} (H : NAt w S h n N) : ∃ ks, KeysOf N ks ∧ ks.length ≤ n := by
  rcases H with ⟨_, hN⟩ | ⟨b, _, H⟩
  · exact ⟨[], ⟨List.Pairwise.nil, fun k => ⟨fun h => (by cases h), fun ⟨h1, h2⟩ => (by rw [hN k h1] at h2; cases h2)⟩⟩, Nat.zero_le _⟩
  · exact keys_in H

set_option maxRecDepth 100000 in
theorem zzRange_nil (c off : Nat) (f : Value) (w : World) (hb : w.cell? ⟨c, off, none⟩ = some (.map none)) : Calls Tryz.prog 255 #[.pointer (some ⟨c, off, none⟩), f] w fun e w' => e = .returned (.tuple #[]) ∧ Only (fun _ => False) w w' := by
  have hrg := run_range_nilMap (P := Tryz.prog) w 249 3 136 Tryz.underlying249
  have hnx : ∀ ty, (Instr.next (.pointer (some ⟨w.heap.size, 0, none⟩)) false ty).run Tryz.prog (w.alloc (.mapIter none 0 #[] 0)) = _ := fun ty => run_next_nilMap _ ty 0 0 #[]
  go_enter Tryz.func255, Tryz.ntmps255
  go_wp2_with fail
  refine wp_loop_rounds 1 ?_
  rw [rounds_succ]
  go_wp2_with fail
  refine (sortInts_nil _).mono ?_
  rintro e w' ⟨rfl, hw⟩
  rw [hw]
  clear hw w'
  go_wp2_with fail
  refine wp_loop_rounds 1 ?_
  rw [rounds_succ]
  go_wp2_with fail
  go_end0
  exact ⟨rfl, (Only.refl _ _).alloc _⟩

/-- Range over a map that may be nil. -/
theorem zzRangeAt (c off n F : Nat) (h : Option Nat) (caps : Array Value) (S T : Nat → Prop) (N : Int → Option Int) (ks : List Int) (w : World) (hb : w.cell? ⟨c, off, none⟩ = some (.map h)) (H : NAt w S h n N) (hn : n ≤ 17592186044414) (hks : KeysOf N ks) (hF : ∀ args w, (callFunc F args).run Tryz.prog w = .ok (.enter F args) w)
    (J : Nat → List Int → World → Prop) (hT : ∀ k, T k → k < w.heap.size) (start : ∀ w', Only (fun _ => False) w w' → J w'.heap.size [] w')
    (step : ∀ (M : Nat) (done : List Int) (k : Int) (rest : List Int) (w' : World), w.heap.size ≤ M → M ≤ w'.heap.size → ks = done ++ k :: rest → J M done w' → Only T w w' → w'.cell? ⟨c, off, none⟩ = some (.map h) ∧ ∃ v, (Instr.lookup 249 (.map h) (.int .i64 k) true).run Tryz.prog w' = .ok (.tuple #[v, .bool true]) w' ∧
      Calls Tryz.prog F (#[.int .i64 k, v] ++ caps) w' fun e w2 => e = .returned (.bool true) ∧ J M (done ++ [k]) w2 ∧ Only (fun j => T j ∨ M ≤ j) w' w2) :
    Calls Tryz.prog 255 #[.pointer (some ⟨c, off, none⟩), .func (.func F) #[] caps] w fun e w' => e = .returned (.tuple #[]) ∧ (∃ M, w.heap.size ≤ M ∧ J M ks w') ∧ Only T w w' := by
  rcases H with ⟨rfl, hN⟩ | ⟨b, rfl, H⟩
  · have hk : ks = [] := by
      cases ks with
      | nil => rfl
      | cons k r => have := (hks.2 k).1 (List.mem_cons_self ..); rw [hN k this.1] at this; cases this.2
    subst hk
    refine (zzRange_nil c off _ w hb).mono ?_
    rintro e w' ⟨rfl, ho⟩
    exact ⟨rfl, ⟨_, ho.size, start w' ho⟩, ho.mono (fun k _ e => e.elim)⟩
  · exact zzRange c off b n F caps S T N ks w hb H hn hks hF J hT start step
end Go.Proofs.YtebjclmbacmilaaGreatDoor
