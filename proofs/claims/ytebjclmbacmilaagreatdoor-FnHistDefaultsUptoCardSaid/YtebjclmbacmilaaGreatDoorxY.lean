/- Checks and sorts at the names NewDesc walks: valid names, empty sorts, label length Contract of NewDesc at the one description that the thin package asks for. No conditions but those stated. Small contracts of NewHistogram: IsInf, DefBuckets, errors.New, selfCollector.init, MakeLabelPairs. No conditions but those stated. -/
import Derived.Test.YtebjclmbacmilaaGreatDoorxQ
import Derived.Carry
import Derived.Laws.BytesString
import Derived.Laws.IdiomRangeMap
import Derived.Deep.DeepAppendWide
import Derived.BigQuiet
namespace Go.Proofs.YtebjclmbacmilaaGreatDoor
open Go.RowKit

set_option maxRecDepth 100000 in
set_option maxHeartbeats 800000 in
theorem validString_h (w : World) :
    Calls Tryz.prog 129 #[.string ⟨#[104]⟩] w fun e w' => e = .returned (.bool true) ∧ w' = w := by
  have hb : ((({ data := #[104] } : ByteArray)[0]'(by decide)).toNat : Int) < 128 := by decide
  go_enter Tryz.func129, Tryz.ntmps129
  go_wp2_with fail
  refine wp_loop_rounds 2 ?_
  rw [rounds_succ]
  go_wp2_with fail
  rw [rounds_succ]
  go_wp2_with fail
  go_ret
  exact ⟨rfl, rfl⟩

theorem isValidMetricName_h (w : World) : Calls Tryz.prog 112 #[.string ⟨#[104]⟩] w fun e w' => e = .returned (.bool true) ∧ w' = w := by
  go_enter Tryz.func112, Tryz.ntmps112
  go_wp2_with (go_at_call 129; refine (validString_h _).mono ?_; rintro e w' ⟨rfl, rfl⟩)
  go_ret
  exact ⟨rfl, rfl⟩
set_option maxRecDepth 100000 in
theorem validateLabelValues_h (b cap : Nat) (w : World) (h : w.cell? ⟨b, 0, none⟩ = some (.string ⟨#[104]⟩)) :
    Calls Tryz.prog 115 #[.slice (some ⟨b, 0, none⟩) 1 cap, .int .i64 1] w fun e w' => e = .returned .nilIface ∧ w' = w := by
  go_enter Tryz.func115, Tryz.ntmps115
  go_wp2_with fail
  refine wp_loop_rounds 2 ?_
  rw [rounds_succ]
  go_wp2_with (go_at_call 129; refine (validString_h _).mono ?_; rintro e w' ⟨rfl, rfl⟩)
  rw [rounds_succ]
  go_wp2_with fail
  go_ret
  exact ⟨rfl, rfl⟩

set_option maxRecDepth 100000 in
theorem insStrings_empty (b cap : Nat) (w : World) :
    Calls Tryz.prog 177 #[.slice (some ⟨b, 0, none⟩) 0 cap, .int .i64 0, .int .i64 0] w fun e w' => e = .returned (.tuple #[]) ∧ w' = w := by
  go_enter Tryz.func177, Tryz.ntmps177
  go_wp2_with fail
  refine wp_loop_rounds 1 ?_
  rw [rounds_succ]
  go_wp2_with fail
  first | go_end0 | refine bodyPost_ret (results_none rfl _ _ _) rfl ?_
  exact ⟨rfl, rfl⟩

set_option maxRecDepth 100000 in
theorem pdqStrings_empty (b cap : Nat) (w : World) :
    Calls Tryz.prog 149 #[.slice (some ⟨b, 0, none⟩) 0 cap, .int .i64 0, .int .i64 0, .int .i64 0] w fun e w' => e = .returned (.tuple #[]) ∧ w' = w := by
  go_enter Tryz.func149, Tryz.ntmps149
  go_wp2_with fail
  refine wp_loop_rounds 1 ?_
  rw [rounds_succ]
  go_wp2_with (go_at_call 177; refine (insStrings_empty _ _ _).mono ?_; rintro e w' ⟨rfl, rfl⟩)
  first | go_end0 | refine bodyPost_ret (results_none rfl _ _ _) rfl ?_
  exact ⟨rfl, rfl⟩

set_option maxRecDepth 100000 in
theorem sortStrings_empty (b cap : Nat) (w : World) :
    Calls Tryz.prog 114 #[.slice (some ⟨b, 0, none⟩) 0 cap] w fun e w' => e = .returned (.tuple #[]) ∧ w' = w := by
  have h132 : Calls Tryz.prog 132 #[.slice (some ⟨b, 0, none⟩) 0 cap] w fun e w' => e = .returned (.tuple #[]) ∧ w' = w := by
    go_enter Tryz.func132, Tryz.ntmps132
    go_wp2_with (first
      | (go_at_call 133; refine (Tryz.bits_Len _ _ (by omega) (by omega)).mono ?_; rintro e w' ⟨rfl, rfl⟩)
      | (go_at_call 149; refine (pdqStrings_empty _ _ _).mono ?_; rintro e w' ⟨rfl, rfl⟩))
    first | go_end0 | refine bodyPost_ret (results_none rfl _ _ _) rfl ?_
    exact ⟨rfl, rfl⟩
  have H := Lib.hid h132
  clear h132
  go_enter Tryz.func114, Tryz.ntmps114
  go_wp2_with (go_at_call 132; refine H.out.mono ?_; rintro e w' ⟨rfl, rfl⟩)
  go_end0
  exact ⟨rfl, rfl⟩

set_option maxRecDepth 100000 in
theorem labelLen_any (b n cap : Nat) (w : World) :
    Calls Tryz.prog 338 #[.slice (some ⟨b, 0, none⟩) n cap] w fun e w' => e = .returned (.int .i64 n) ∧ w' = w := by
  go_enter Tryz.func338, Tryz.ntmps338
  go_wp2
  go_ret
  exact ⟨rfl, rfl⟩

theorem method_labelLen (b cap : Nat) (w : World) : (method 591 271 (.slice (some ⟨b, 0, none⟩) 0 cap) "Len").run Tryz.prog w = .ok (338, .slice (some ⟨b, 0, none⟩) 0 cap) w := by kernel_rfl

set_option maxRecDepth 100000 in
theorem sortSort_empty (b cap : Nat) (w : World) :
    Calls Tryz.prog 117 #[.iface 271 (.slice (some ⟨b, 0, none⟩) 0 cap)] w fun e w' => e = .returned (.tuple #[]) ∧ w' = w := by
  have hm := method_labelLen b cap w
  go_enter Tryz.func117, Tryz.ntmps117
  go_wp2_with (go_at_call 338; refine (labelLen_any _ _ _ _).mono ?_; rintro e w' ⟨rfl, rfl⟩)
  first | go_end0 | refine bodyPost_ret (results_none rfl _ _ _) rfl ?_
  exact ⟨rfl, rfl⟩
end Go.Proofs.YtebjclmbacmilaaGreatDoor

namespace Go.Proofs.YtebjclmbacmilaaGreatDoor
open Go.RowKit

theorem cell_lt {w : World} {a : Addr} {v : Value} (h : w.cell? a = some v) : a.block < w.heap.size := by
  rcases Nat.lt_or_ge a.block w.heap.size with h' | h'
  · exact h'
  · simp [World.cell?, Array.getElem?_eq_none h'] at h
theorem Only.cell {S : Nat → Prop} {w w' : World} (h : Only S w w') {a : Addr} {v : Value} (ha : w.cell? a = some v) (hs : ¬ S a.block) : w'.cell? a = some v := by
  have := h.block a.block (cell_lt ha) hs
  rw [← ha]
  simp [World.cell?, this]
theorem bcell {B : Nat} {w w' : World} (h : Below B w w') (hB : w.heap.size = B) {a : Addr} {v : Value} (ha : w.cell? a = some v) : w'.cell? a = some v :=
  (Only.of_below h).cell ha (by have := cell_lt ha; show ¬ B ≤ a.block; omega)
theorem bblock {B : Nat} {w w' : World} (h : Below B w w') (hB : w.heap.size = B) {b : Nat} {cs : List Value} (ha : IsBlock w b cs) : IsBlock w' b cs :=
  (Only.of_below h).isBlock ha (by have := ha.lt; show ¬ B ≤ b; omega)

theorem withUnit1_any (d ub : Nat) (us : ByteArray) (cs : List Value) (v : Value) (w : World) (hu : IsBlock w ub [.string us]) (hd : IsBlock w d cs) (h2 : cs[2]? = some v) :
    Calls Tryz.prog 121 #[.pointer (some ⟨d, 0, none⟩), .pointer (some ⟨ub, 0, none⟩)] w fun e w' => e = .returned (.tuple #[]) ∧ IsBlock w' d (cs.set 2 (.string us)) ∧ Only (fun k => k = d) w w' ∧ w'.heap.size = w.heap.size := by
  have c0 := hu.cell (i := 0) rfl
  have c2 := hd.cell h2
  have f2 := hd.free 2
  have HU := Lib.hid hu
  have HD := Lib.hid hd
  clear hu hd h2
  go_enter Tryz.func121, Tryz.ntmps121
  go_wp2_with fail
  first | go_end0 | refine bodyPost_ret (results_none rfl _ _ _) rfl ?_
  exact ⟨rfl, HD.out.set 2 _, (Only.refl (fun k => k = d) _).setCell (.inl rfl) _, by simp⟩

theorem compile_nil (w : World) :
    Calls Tryz.prog 231 #[.slice none 0 0] w fun e w' => e = .returned (.pointer (some ⟨w.heap.size, 0, none⟩)) ∧ w' = w.alloc (.cells #[.slice none 0 0, .map none] 220) := by
  go_enter Tryz.func231, Tryz.ntmps231
  go_wp2_with fail
  go_ret
  exact ⟨rfl, rfl⟩

theorem method_compile (w : World) : (method 591 200 (.slice none 0 0) "pub-dialplate/pub/clientgolang/prometheus.compile").run Tryz.prog w = .ok (231, .slice none 0 0) w := by kernel_rfl

theorem info9 : (Tryz.prog.info? 9).map (fun i => (i.zero, i.size, i.bytes)) = some (some (.string ⟨#[]⟩), 1, 16) := by kernel_rfl
theorem info225 : (Tryz.prog.info? 225).map (fun i => (i.zero, i.size, i.bytes)) = some (some (.pointer none), 1, 8) := by kernel_rfl
theorem mk199_1 (w : World) : (Instr.makeSlice 199 (.int .i64 1) (.int .i64 1)).run Tryz.prog w = .ok (.slice (some ⟨w.heap.size, 0, none⟩) 1 1) (w.alloc (.cells #[.string ⟨#[]⟩] 9)) := by kernel_rfl
theorem mk199_0 (w : World) : (Instr.makeSlice 199 (.int .i64 0) (.int .i64 0)).run Tryz.prog w = .ok (.slice (some ⟨w.heap.size, 0, none⟩) 0 0) (w.alloc (.cells #[] 9)) := by kernel_rfl
theorem mk130_0 (w : World) : (Instr.makeSlice 130 (.int .i64 0) (.int .i64 0)).run Tryz.prog w = .ok (.slice (some ⟨w.heap.size, 0, none⟩) 0 0) (w.alloc (.cells #[] 225)) := by kernel_rfl

theorem bcell2 {B : Nat} {w w' : World} (h : Below B w w') {a : Addr} {v : Value} (ha : w.cell? a = some v) (hlt : a.block < B) : w'.cell? a = some v := by
  have := h.block a.block hlt
  rw [← ha]
  simp [World.cell?, this]
theorem ownsRow_fresh (w : World) (B : Nat) (e : TypeId) (hB : B ≤ w.heap.size) : (w.alloc (.cells #[] e)).ownsRow B e 1 (.slice (some ⟨w.heap.size, 0, none⟩) 0 0) 0 [] := by
  refine ⟨rfl, .inr ⟨_, 0, #[], rfl, hB, ?_, Nat.le_refl _, by decide, rfl, rfl⟩⟩
  show (w.heap.push _)[w.heap.size]? = _
  simp

theorem one_cell {w : World} {a : Addr} {v : Value} (h : w.cell? a = some v) : ∀ j u, [v][j]? = some u → w.cell? (a.add j) = some u := by
  intro j u hj
  cases j with
  | zero => simp at hj; subst hj; simpa [Addr.add] using h
  | succ n => simp at hj
theorem one_one (v : Value) (h : v.oneCell' = true) : ∀ u ∈ [v], u.oneCell' = true := by
  intro u hu
  simp at hu
  subst hu
  exact h

theorem rowBelow {w w' : World} {v : Value} {base : Nat} {e : TypeId} {size n : Nat} {xs : List Value} (h : w.ownsRow base e size v n xs) (hg : w.grownBy w' v.ownBlock) (hle : base ≤ w.heap.size) : Below base w w' :=
  (Below.refl _ w).grown hg hle (fun k hk => (h.lt k hk).1)

theorem conv265 {w : World} {B : Nat} {v : Value} {n : Nat} {xs : List Int} (h : w.ownsRow B 5 1 v n (xs.map (Value.int .u8))) (hn : 0 < n) : ∃ s, (convert 265 9 v).run Tryz.prog w = .ok (.string s) w := by
  rcases h.2 with ⟨_, h0⟩ | ⟨g, cap, cur, hv, _⟩
  · omega
  · subst hv
    rw [run_convert_bytes_string w 265 9 5 _ _ _ Tryz.underlying265 Tryz.underlying5 Tryz.underlying9]
    refine ⟨_, run_bytesToString w _ _ _ ((List.range n).map (fun j => xs.getD j 0)) ?_⟩
    rw [List.map_map]
    refine run_loadCells (P := Tryz.prog) (w := w) _ n _ (fun j hj => ?_)
    have hl : j < xs.length := by have := h.1; simp at this; omega
    exact h.cells rfl j _ (by simp [List.getElem?_eq_getElem hl])

set_option maxRecDepth 100000 in
set_option maxHeartbeats 1600000 in
theorem newDesc_h (ob ub : Nat) (gs : Addr) (gc : Nat) (w : World)
    (ho : IsBlock w ob [.func (.func 121) #[] #[.pointer (some ⟨ub, 0, none⟩)]]) (hu : IsBlock w ub [.string ⟨#[]⟩]) (hg : w.cell? ⟨2, 0, none⟩ = some (.slice (some gs) 1 gc)) (hgs : w.cell? gs = some (.int .u8 255)) :
    Calls Tryz.prog 89 #[.agg #[], .string ⟨#[104]⟩, .string ⟨#[]⟩, .iface 200 (.slice none 0 0), .map none, .slice (some ⟨ob, 0, none⟩) 1 1] w fun e w' => ∃ p s2 s3, e = .returned (.pointer (some ⟨w.heap.size + 1 + 1, 0, none⟩)) ∧ IsBlock w' (w.heap.size + 1 + 1) [.string ⟨#[104]⟩, .string ⟨#[]⟩, .string ⟨#[]⟩, .slice (some ⟨p, 0, none⟩) 0 0, .pointer (some ⟨w.heap.size + 1, 0, none⟩), .string s2, .string s3, .nilIface] ∧ IsBlock w' (w.heap.size + 1) [.slice none 0 0, .map none] ∧ Below w.heap.size w w' := by
  have hm := method_compile (w.alloc (Obj.cells #[] 196))
  go_enter Tryz.func89, Tryz.ntmps89
  go_wp2_with fail
  refine (compile_nil _).mono ?_
  rintro e w1 ⟨rfl, rfl⟩
  go_wp2_with fail
  have c1 := (((ho.alloc (Obj.cells #[] 196)).alloc (Obj.cells #[.slice none 0 0, .map none] 220)).alloc (Obj.cells #[.string ⟨#[104]⟩, .string ⟨#[]⟩, .string ⟨#[]⟩, .slice none 0 0, .pointer (some ⟨w.heap.size + 1, 0, none⟩), .string ⟨#[]⟩, .string ⟨#[]⟩, .nilIface] 223)).cell (i := 0) rfl
  refine wp_loop_rounds 2 ?_
  rw [rounds_succ]
  go_wp2_with fail
  clear c1
  refine (withUnit1_any _ ub ⟨#[]⟩ [.string ⟨#[104]⟩, .string ⟨#[]⟩, .string ⟨#[]⟩, .slice none 0 0, .pointer (some ⟨w.heap.size + 1, 0, none⟩), .string ⟨#[]⟩, .string ⟨#[]⟩, .nilIface] _ _ (((hu.alloc _).alloc _).alloc _) (by have := IsBlock.new ((w.alloc (Obj.cells #[] 196)).alloc (Obj.cells #[.slice none 0 0, .map none] 220)) [.string ⟨#[104]⟩, .string ⟨#[]⟩, .string ⟨#[]⟩, .slice none 0 0, .pointer (some ⟨w.heap.size + 1, 0, none⟩), .string ⟨#[]⟩, .string ⟨#[]⟩, .nilIface] 223; simpa using this) rfl).mono ?_
  rintro e w1 ⟨rfl, hd1, hon, hsz⟩
  have hb1 : Below w.heap.size w w1 := (((((Below.refl _ w).alloc (Nat.le_refl _) _).alloc (by simp) _).alloc (by simp; omega) _).trans (hon.below (by simp; omega) (fun k hk => by omega)))
  have hn1 : IsBlock w1 (w.heap.size + 1) [.slice none 0 0, .map none] := hon.isBlock ((by have := IsBlock.new (w.alloc (Obj.cells #[] 196)) [.slice none 0 0, .map none] 220; simpa using this : IsBlock _ (w.heap.size + 1) [.slice none 0 0, .map none]).alloc _) (by omega)
  simp only [List.set] at hd1
  have hsz : w1.heap.size = w.heap.size + 3 := by simpa using hsz
  clear hon
  have HB := Lib.hid hb1
  have HD := Lib.hid hd1
  have HN := Lib.hid hn1
  clear hb1 hd1 hn1
  go_wp2_with fail
  rw [rounds_succ]
  go_wp2_with fail
  refine (isValidMetricName_h _).mono ?_
  rintro e w2 ⟨rfl, rfl⟩
  have hmk1 := mk199_1 w2
  go_wp2_with fail
  obtain ⟨w3, hw3⟩ : ∃ x, x = w2.alloc (Obj.cells #[.string ⟨#[104]⟩] 9) := ⟨_, rfl⟩
  rw [← hw3]
  have HB3 := Lib.hid (show Below w.heap.size w w3 by rw [hw3]; exact HB.out.alloc (by omega) _)
  have HD3 := Lib.hid (show IsBlock w3 _ _ by rw [hw3]; exact HD.out.alloc _)
  have HN3 := Lib.hid (show IsBlock w3 _ _ by rw [hw3]; exact HN.out.alloc _)
  have HL3 := Lib.hid (show IsBlock w3 (w.heap.size + 1 + 1 + 1) [.string ⟨#[104]⟩] by rw [hw3]; have := IsBlock.new w2 [.string ⟨#[104]⟩] 9; rw [hsz] at this; exact this)
  have hs3 : w3.heap.size = w.heap.size + 4 := by rw [hw3]; simp [hsz]
  clear hw3 HB HD HN hsz hmk1 hm
  have d4 := HD3.out.cell (i := 4) rfl
  have n0 := HN3.out.cell (i := 0) rfl
  have hmk := mk199_0
  go_region
  obtain ⟨w4, hw4⟩ : ∃ x, x = (w3.alloc (Obj.cells #[] 9)).drew := ⟨_, rfl⟩
  rw [← hw4]
  have HB4 := Lib.hid (show Below w.heap.size w w4 by rw [hw4]; exact (HB3.out.alloc (by omega) _).drew)
  have HD4 := Lib.hid (show IsBlock w4 _ _ by rw [hw4]; exact (HD3.out.alloc _).drew)
  have HN4 := Lib.hid (show IsBlock w4 _ _ by rw [hw4]; exact (HN3.out.alloc _).drew)
  have HL4 := Lib.hid (show IsBlock w4 _ _ by rw [hw4]; exact (HL3.out.alloc _).drew)
  have hs4 : w4.heap.size = w.heap.size + 5 := by rw [hw4]; simp [World.drew, hs3]
  clear hw4 HB3 HD3 HN3 HL3 hs3 hmk d4 n0
  have hmm := run_makeMap (P := Tryz.prog) 262 w4
  have hrg : ∀ wx : World, (Instr.range 117 (.map none)).run Tryz.prog wx = _ := fun wx => run_range_nilMap wx 117 9 9 Tryz.underlying117
  have hnx : ∀ ty, (Instr.next (.pointer (some ⟨w.heap.size + 5 + 1, 0, none⟩)) false ty).run Tryz.prog ((w4.alloc (.map #[] 0)).alloc (.mapIter none 0 #[] 0)) = .ok (.tuple #[.bool false]) ((w4.alloc (.map #[] 0)).alloc (.mapIter none 0 #[] 0)) := fun ty => by
    have := run_next_nilMap (P := Tryz.prog) (w4.alloc (.map #[] 0)) ty 0 0 #[]
    simp only [show (w4.alloc (.map #[] 0)).heap.size = w.heap.size + 5 + 1 by simp [hs4]] at this
    exact this
  go_wp2_with fail
  refine wp_loop_rounds 1 ?_
  rw [rounds_succ]
  go_wp2_with fail
  refine (sortStrings_empty _ _ _).mono ?_
  rintro e w5 ⟨rfl, rfl⟩
  go_wp2_with fail
  refine wp_loop_rounds 1 ?_
  rw [rounds_succ]
  go_wp2_with fail
  obtain ⟨w5, hw5⟩ : ∃ x, x = (w4.alloc (.map #[] 0)).alloc (.mapIter none 0 #[] 0) := ⟨_, rfl⟩
  rw [← hw5]
  have HB5 := Lib.hid (show Below w.heap.size w w5 by rw [hw5]; exact (HB4.out.alloc (by omega) _).alloc (by simp; omega) _)
  have HD5 := Lib.hid (show IsBlock w5 _ _ by rw [hw5]; exact (HD4.out.alloc _).alloc _)
  have HN5 := Lib.hid (show IsBlock w5 _ _ by rw [hw5]; exact (HN4.out.alloc _).alloc _)
  have HL5 := Lib.hid (show IsBlock w5 _ _ by rw [hw5]; exact (HL4.out.alloc _).alloc _)
  have hs5 : w5.heap.size = w.heap.size + 7 := by rw [hw5]; simp [hs4]
  have hmp : w5.heap[w.heap.size + 5]? = some (.map #[] 0) := by
    rw [hw5, Below.heap_alloc _ _ _ (by simp [hs4]), ← hs4]
    show (w4.heap.push _)[w4.heap.size]? = _
    simp
  clear hw5 HB4 HD4 HN4 HL4 hs4 hmm hrg hnx
  have l0 := HL5.out.cell (i := 0) rfl
  have d4 := HD5.out.cell (i := 4) rfl
  have n0 := HN5.out.cell (i := 0) rfl
  have hlen : ∀ ty, (Builtin.len_ #[262] ty #[.map (some (w.heap.size + 5))]).run Tryz.prog w5 = .ok (.int .i64 0) w5 := fun ty => by
    simp [Builtin.len_, run_underlying Tryz.underlying262, MapKept.run_getObj_map hmp, goInt, Result.andThen]
  have HG := Lib.hid hg
  have HGS := Lib.hid hgs
  clear hg hgs hmp
  refine (validateLabelValues_h _ _ _ l0).mono ?_
  rintro e w6 ⟨rfl, rfl⟩
  go_wp2_with fail
  refine wp_loop_rounds 1 ?_
  rw [rounds_succ]
  go_wp2_with fail
  refine wp_loop_rounds 2 ?_
  rw [rounds_succ]
  obtain ⟨i5, hi5, hz5, hsz5, hb5⟩ := info_parts info5
  have hr0 := ownsRow_fresh w6 (w.heap.size + 7) 5 (by omega)
  rw [hs5] at hr0
  have HR0 := Lib.hid hr0
  clear hr0
  go_wp2_with (at_builtin; go_loud (refine Lib.wpList_append_own_string _ rfl _ _ 265 9 rfl (w.heap.size + 7) 5 i5 Tryz.underlying265 Tryz.underlying9 hi5 hz5 hsz5 hb5 _ 0 [] rfl HR0.out ⟨#[104]⟩ rfl (by decide) (by decide) (by simp; omega) ?_))
  intro v1 x1 hown1 hgr1 hnil1
  have hb1 : Below (w.heap.size + 7) w6 x1 := ((Below.refl _ w6).alloc (by omega) _).grown hgr1 (by simp; omega) (fun k hk => by cases hk; exact Nat.le_refl _)
  have hr1 : x1.ownsRow (w.heap.size + 7) 5 1 v1 1 [.int .u8 104] := hown1
  have g2 := bcell2 hb1 (bcell HB5.out rfl HG.out) (by have := cell_lt HG.out; show 2 < _; simp at this; omega)
  have gs2 := bcell2 hb1 (bcell HB5.out rfl HGS.out) (by have := cell_lt HGS.out; omega)
  obtain ⟨va1, vc1, rfl⟩ := ownsRow_slice hr1
  have HX1 := Lib.hid hb1
  have HR1 := Lib.hid hr1
  have hle1 : w.heap.size + 7 ≤ x1.heap.size := by have := hb1.size; omega
  clear hown1 hgr1 hnil1 hb1 hr1 HR0
  go_wp2_with (at_builtin; go_loud (refine wpList_append_own_wide _ rfl _ _ 265 rfl (w.heap.size + 7) 5 i5 (.int .u8 0) 1 1 Tryz.underlying265 hi5 hz5 hsz5 hb5 rfl (by decide) _ 1 _ rfl HR1.out gs 1 gc [.int .u8 255] rfl rfl (one_cell gs2) (one_one _ rfl) (by decide) (by decide) hle1 ?_))
  intro v2 x2 hown2 hgr2 hnil2
  have hr2 : x2.ownsRow (w.heap.size + 7) 5 1 v2 2 ([104, 255].map (Value.int .u8)) := hown2
  have hb2 : Below (w.heap.size + 7) w6 x2 := HX1.out.trans (rowBelow HR1.out hgr2 hle1)
  obtain ⟨s2, hcv⟩ := conv265 hr2 (by decide)
  obtain ⟨va2, vc2, rfl⟩ := ownsRow_slice hr2
  have hd2 : IsBlock x2 _ _ := HD5.out.of_heap (hb2.block _ (by omega))
  have d5 := hd2.cell (i := 5) rfl
  have f5 := hd2.free 5
  have HX2 := Lib.hid hb2
  have HD2 := Lib.hid hd2
  have hle2 : w.heap.size + 7 ≤ x2.heap.size := by have := hb2.size; omega
  clear hown2 hgr2 hnil2 hb2 hr2 HR1 g2 gs2 hd2 l0 n0
  go_wp2_with fail
  rw [rounds_succ]
  go_wp2_with fail
  obtain ⟨w7, hw7⟩ : ∃ x, x = x2.setCell ⟨w.heap.size + 1 + 1, 5, none⟩ (.string s2) := ⟨_, rfl⟩
  rw [← hw7]
  have HB7 := Lib.hid (show Below w.heap.size w w7 by rw [hw7]; exact (HB5.out.trans (HX2.out.mono (by omega))).setCell (by show _ ≤ w.heap.size + 1 + 1; omega) _)
  have HD7 := Lib.hid (show IsBlock w7 (w.heap.size + 1 + 1) _ by rw [hw7]; exact HD2.out.set 5 _)
  have HN7 := Lib.hid (show IsBlock w7 (w.heap.size + 1) _ by rw [hw7]; exact (HN5.out.of_heap (HX2.out.block _ (by omega))).set_ne (by simp) _)
  have hle7 : w.heap.size + 7 ≤ w7.heap.size := by rw [hw7]; simpa using hle2
  clear hw7 HB5 HD5 HN5 HL5 HX1 HX2 HD2 hs5 d5 f5 d4 hlen hcv hle1 hle2
  refine (sortStrings_empty _ _ _).mono ?_
  rintro e w8 ⟨rfl, rfl⟩
  simp only [List.set] at HD7
  have hr0 := ownsRow_fresh w8 (w.heap.size + 7) 5 (by omega)
  have HR0 := Lib.hid hr0
  clear hr0
  go_wp2_with (at_builtin; go_loud (refine Lib.wpList_append_own_string _ rfl _ _ 265 9 rfl (w.heap.size + 7) 5 i5 Tryz.underlying265 Tryz.underlying9 hi5 hz5 hsz5 hb5 _ 0 [] rfl HR0.out ⟨#[]⟩ rfl (by decide) (by decide) (by simp; omega) ?_))
  intro v1 x1 hown1 hgr1 hnil1
  have hb1 : Below (w.heap.size + 7) w8 x1 := ((Below.refl _ w8).alloc (by omega) _).grown hgr1 (by simp; omega) (fun k hk => by cases hk; omega)
  have hr1 : x1.ownsRow (w.heap.size + 7) 5 1 v1 0 [] := hown1
  have g2 := bcell2 hb1 (bcell HB7.out rfl HG.out) (by have := cell_lt HG.out; show 2 < _; simp at this; omega)
  have gs2 := bcell2 hb1 (bcell HB7.out rfl HGS.out) (by have := cell_lt HGS.out; omega)
  obtain ⟨va1, vc1, rfl⟩ := ownsRow_slice hr1
  have HX1 := Lib.hid hb1
  have HR1 := Lib.hid hr1
  have hle1 : w.heap.size + 7 ≤ x1.heap.size := by have := hb1.size; omega
  clear hown1 hgr1 hnil1 hb1 hr1 HR0
  go_wp2_with (at_builtin; go_loud (refine wpList_append_own_wide _ rfl _ _ 265 rfl (w.heap.size + 7) 5 i5 (.int .u8 0) 1 1 Tryz.underlying265 hi5 hz5 hsz5 hb5 rfl (by decide) _ 0 _ rfl HR1.out gs 1 gc [.int .u8 255] rfl rfl (one_cell gs2) (one_one _ rfl) (by decide) (by decide) hle1 ?_))
  intro v2 x2 hown2 hgr2 hnil2
  have hr2 : x2.ownsRow (w.heap.size + 7) 5 1 v2 1 [.int .u8 255] := hown2
  have hb2 : Below (w.heap.size + 7) w8 x2 := HX1.out.trans (rowBelow HR1.out hgr2 hle1)
  obtain ⟨va2, vc2, rfl⟩ := ownsRow_slice hr2
  have dd2 := (HD7.out.of_heap (hb2.block _ (by omega))).cell (i := 2) rfl
  have HX2 := Lib.hid hb2
  have HR2 := Lib.hid hr2
  have hle2 : w.heap.size + 7 ≤ x2.heap.size := by have := hb2.size; omega
  clear hown2 hgr2 hnil2 hb2 hr2 HR1 HX1 hle1 g2 gs2
  go_wp2_with (at_builtin; go_loud (refine Lib.wpList_append_own_string _ rfl _ _ 265 9 rfl (w.heap.size + 7) 5 i5 Tryz.underlying265 Tryz.underlying9 hi5 hz5 hsz5 hb5 _ 1 _ rfl HR2.out ⟨#[]⟩ rfl (by decide) (by decide) hle2 ?_))
  intro v1 x1 hown1 hgr1 hnil1
  have hr1 : x1.ownsRow (w.heap.size + 7) 5 1 v1 1 [.int .u8 255] := hown1
  have hb1 : Below (w.heap.size + 7) w8 x1 := HX2.out.trans (rowBelow HR2.out hgr1 hle2)
  have g2 := bcell2 hb1 (bcell HB7.out rfl HG.out) (by have := cell_lt HG.out; show 2 < _; simp at this; omega)
  have gs2 := bcell2 hb1 (bcell HB7.out rfl HGS.out) (by have := cell_lt HGS.out; omega)
  obtain ⟨va1, vc1, rfl⟩ := ownsRow_slice hr1
  have HX1 := Lib.hid hb1
  have HR1 := Lib.hid hr1
  have hle1 : w.heap.size + 7 ≤ x1.heap.size := by have := hb1.size; omega
  clear hown1 hgr1 hnil1 hb1 hr1 HR2 HX2 hle2 dd2
  go_wp2_with (at_builtin; go_loud (refine wpList_append_own_wide _ rfl _ _ 265 rfl (w.heap.size + 7) 5 i5 (.int .u8 0) 1 1 Tryz.underlying265 hi5 hz5 hsz5 hb5 rfl (by decide) _ 1 _ rfl HR1.out gs 1 gc [.int .u8 255] rfl rfl (one_cell gs2) (one_one _ rfl) (by decide) (by decide) hle1 ?_))
  intro v2 x2 hown2 hgr2 hnil2
  have hr2 : x2.ownsRow (w.heap.size + 7) 5 1 v2 2 ([255, 255].map (Value.int .u8)) := hown2
  have hb2 : Below (w.heap.size + 7) w8 x2 := HX1.out.trans (rowBelow HR1.out hgr2 hle1)
  obtain ⟨s3, hcv⟩ := conv265 hr2 (by decide)
  obtain ⟨va2, vc2, rfl⟩ := ownsRow_slice hr2
  have hd2 : IsBlock x2 _ _ := HD7.out.of_heap (hb2.block _ (by omega))
  have d6 := hd2.cell (i := 6) rfl
  have f6 := hd2.free 6
  have HX2 := Lib.hid hb2
  have HD2 := Lib.hid hd2
  have hle2 : w.heap.size + 7 ≤ x2.heap.size := by have := hb2.size; omega
  clear hown2 hgr2 hnil2 hb2 hr2 HR1 HX1 hle1 g2 gs2 hd2
  go_wp2_with fail
  refine wp_loop_rounds 1 ?_
  rw [rounds_succ]
  go_wp2_with fail
  obtain ⟨w9, hw9⟩ : ∃ x, x = x2.setCell ⟨w.heap.size + 1 + 1, 6, none⟩ (.string s3) := ⟨_, rfl⟩
  rw [← hw9]
  have HB9 := Lib.hid (show Below w.heap.size w w9 by rw [hw9]; exact (HB7.out.trans (HX2.out.mono (by omega))).setCell (by show _ ≤ w.heap.size + 1 + 1; omega) _)
  have HD9 := Lib.hid (show IsBlock w9 (w.heap.size + 1 + 1) _ by rw [hw9]; exact HD2.out.set 6 _)
  have HN9 := Lib.hid (show IsBlock w9 (w.heap.size + 1) _ by rw [hw9]; exact (HN7.out.of_heap (HX2.out.block _ (by omega))).set_ne (by simp) _)
  have hle9 : w.heap.size + 7 ≤ w9.heap.size := by rw [hw9]; simpa using hle2
  clear hw9 HB7 HD7 HN7 HX2 HD2 d6 f6 hcv hle2 hle7
  simp only [List.set] at HD9
  have d3 := (HD9.out.alloc (.cells #[] 225)).cell (i := 3) rfl
  have f3 := (HD9.out.alloc (.cells #[] 225)).free 3
  have hmk := mk130_0 w9
  have hrg : ∀ wx : World, (Instr.range 117 (.map none)).run Tryz.prog wx = _ := fun wx => run_range_nilMap wx 117 9 9 Tryz.underlying117
  rw [hmk]
  go_wp2_with fail
  obtain ⟨w10, hw10⟩ : ∃ x, x = (w9.alloc (.cells #[] 225)).setCell ⟨w.heap.size + 1 + 1, 3, none⟩ (.slice (some ⟨w9.heap.size, 0, none⟩) 0 0) := ⟨_, rfl⟩
  rw [← hw10]
  have hs10 : w10.heap.size = w9.heap.size + 1 := by rw [hw10]; simp
  have HD10 := Lib.hid (show IsBlock w10 (w.heap.size + 1 + 1) _ by rw [hw10]; exact (HD9.out.alloc _).set 3 _)
  have HN10 := Lib.hid (show IsBlock w10 (w.heap.size + 1) _ by rw [hw10]; exact (HN9.out.alloc _).set_ne (by simp) _)
  have HB10 := Lib.hid (show Below w.heap.size w w10 by rw [hw10]; exact (HB9.out.alloc (by omega) _).setCell (by show _ ≤ w.heap.size + 1 + 1; omega) _)
  clear hw10 HB9 HD9 HN9 d3 f3 hmk hrg
  simp only [List.set] at HD10
  have dd3 := (HD10.out.alloc (.mapIter none 0 #[] 0)).cell (i := 3) rfl
  have hnx : ∀ ty, (Instr.next (.pointer (some ⟨w9.heap.size + 1, 0, none⟩)) false ty).run Tryz.prog (w10.alloc (.mapIter none 0 #[] 0)) = .ok (.tuple #[.bool false]) (w10.alloc (.mapIter none 0 #[] 0)) := fun ty => by
    have := run_next_nilMap (P := Tryz.prog) w10 ty 0 0 #[]
    simp only [hs10] at this
    exact this
  refine wp_loop_rounds 1 ?_
  rw [rounds_succ]
  go_wp2_with fail
  refine (sortSort_empty _ _ _).mono ?_
  rintro e w11 ⟨rfl, rfl⟩
  go_wp2_with fail
  go_ret
  have hb := HB10.out
  exact ⟨_, _, _, rfl, HD10.out.alloc _, HN10.out.alloc _, hb.alloc (by omega) _⟩
end Go.Proofs.YtebjclmbacmilaaGreatDoor

namespace Go.Proofs.YtebjclmbacmilaaGreatDoor
open Go.RowKit

theorem isInf_any (v : Nat) (w : World) : Calls Tryz.prog 107 #[.float .f64 v, .int .i64 1] w fun e w' => e = .returned (.bool (fgt v 9218868437227405311)) ∧ w' = w := by
  go_enter Tryz.func107, Tryz.ntmps107
  go_wp2_with fail
  go_ret
  exact ⟨rfl, rfl⟩

theorem defBuckets_any (w : World) : Calls Tryz.prog 103 #[] w fun e w' => e = .returned (.slice (some ⟨w.heap.size, 0, none⟩) 11 11) ∧ w' = w.alloc (.cells (f64s [4572414629676717179, 4576918229304087675, 4582862980812216730, 4587366580439587226, 4591870180066957722, 4598175219545276416, 4602678819172646912, 4607182418800017408, 4612811918334230528, 4617315517961601024, 4621819117588971520]).toArray 25) := by
  go_enter Tryz.func103, Tryz.ntmps103
  go_wp2_with fail
  go_ret
  exact ⟨rfl, rfl⟩

theorem errNew_any (s : ByteArray) (w : World) : Calls Tryz.prog 106 #[.string s] w fun e w' => e = .returned (.iface 282 (.pointer (some ⟨w.heap.size, 0, none⟩))) ∧ w' = w.alloc (.cells #[.string s] 284) := by
  go_enter Tryz.func106, Tryz.ntmps106
  go_wp2_with fail
  go_ret
  exact ⟨rfl, rfl⟩

theorem selfInit_any (h : Nat) (i : Nat) (cs : List Value) (t : TypeId) (q : Option Addr) (x : Value) (w : World) (hh : IsBlock w h cs) (hi : cs[i]? = some x) :
    Calls Tryz.prog 111 #[.pointer (some ⟨h, i, none⟩), .iface t (.pointer q)] w fun e w' => e = .returned (.tuple #[]) ∧ w' = w.setCell ⟨h, i, none⟩ (.iface t (.pointer q)) := by
  have c := hh.cell hi
  have f := hh.free i
  clear hh hi
  go_enter Tryz.func111, Tryz.ntmps111
  go_wp2_with fail
  first | go_end0 | refine bodyPost_ret (results_none rfl _ _ _) rfl ?_
  exact ⟨rfl, rfl⟩

theorem makeLabelPairs_none (d nb pb : Nat) (cs : List Value) (w : World) (h3 : cs[3]? = some (.slice (some ⟨pb, 0, none⟩) 0 0)) (h4 : cs[4]? = some (.pointer (some ⟨nb, 0, none⟩))) (hd : IsBlock w d cs) (hn : IsBlock w nb [.slice none 0 0, .map none]) :
    Calls Tryz.prog 102 #[.pointer (some ⟨d, 0, none⟩), .slice none 0 0] w fun e w' => e = .returned (.slice none 0 0) ∧ ∃ k, w' = w.drewN k := by
  have c3 := hd.cell h3
  have c4 := hd.cell h4
  have n0 := hn.cell (i := 0) rfl
  clear hd hn h3 h4
  go_enter Tryz.func102, Tryz.ntmps102
  go_wp2_with fail
  go_quiet (fail)
  go_wp2_with fail
  go_ret
  exact ⟨rfl, _, rfl⟩
end Go.Proofs.YtebjclmbacmilaaGreatDoor
