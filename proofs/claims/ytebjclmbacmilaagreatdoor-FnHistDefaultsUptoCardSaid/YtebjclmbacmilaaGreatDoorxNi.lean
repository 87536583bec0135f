/- Contract of newHistogram, classic (factor at most one): bounds given or the defaults; out of order: it panics. Conditions: as stated (at most 1048577 bounds). Contract of NewHistogram, classic, bounds in order. Conditions: as stated. -/
import Derived.Test.YtebjclmbacmilaaGreatDoorxY
import Derived.Test.YtebjclmbacmilaaGreatDoorxTr
import Derived.Test.YtebjclmbacmilaaGreatDoorW
import Derived.Deep.RegionHeld3
import Derived.Deep.DeepCutAuto
namespace Go.Proofs.YtebjclmbacmilaaGreatDoor
open Go.RowKit

theorem makeLabelPairs_cells (d nb pb : Nat) (w : World) (c3 : w.cell? ⟨d, 3, none⟩ = some (.slice (some ⟨pb, 0, none⟩) 0 0)) (c4 : w.cell? ⟨d, 4, none⟩ = some (.pointer (some ⟨nb, 0, none⟩))) (n0 : w.cell? ⟨nb, 0, none⟩ = some (.slice none 0 0)) :
    Calls Tryz.prog 102 #[.pointer (some ⟨d, 0, none⟩), .slice none 0 0] w fun e w' => e = .returned (.slice none 0 0) ∧ ∃ k, w' = w.drewN k := by
  go_enter Tryz.func102, Tryz.ntmps102
  go_wp2_with fail
  go_quiet (fail)
  go_wp2_with fail
  go_ret
  exact ⟨rfl, _, rfl⟩

def defBs : List Nat := [4572414629676717179, 4576918229304087675, 4582862980812216730, 4587366580439587226, 4591870180066957722, 4598175219545276416, 4602678819172646912, 4607182418800017408, 4612811918334230528, 4617315517961601024, 4621819117588971520]
def oCells (ck : Nat) (bsl after : Value) (fac zt maxZero : Nat) (maxB mr mex ttl : Int) : List Value :=
  [.string ⟨#[]⟩, .string ⟨#[]⟩, .string ⟨#[104]⟩, .string ⟨#[]⟩, .string ⟨#[]⟩, .map none, bsl, .float .f64 fac, .float .f64 zt, .int .u32 maxB, .int .i64 mr, .float .f64 maxZero, .int .i64 mex, .int .i64 ttl, .func (.func 70) #[.pointer (some ⟨ck, 0, none⟩)] #[], after]
def hCells (d ck : Nat) (self bsl after p0 p1 : Value) (sch : Int) (zt maxZero : Nat) (maxB mr t0 : Int) (ex : Value) (ttl : Int) (nex : Value) : List Value :=
  [.int .u64 0, self, .pointer (some ⟨d, 0, none⟩), .int .i32 0, .int .u32 0, p0, p1, bsl, .slice none 0 0, ex, .int .i32 sch, .float .f64 zt, .float .f64 maxZero, .int .u32 maxB, .int .i64 mr, .int .i64 t0, .bool false, .int .i32 0, .int .u32 0, .int .i64 ttl, nex, .func (.func 70) #[.pointer (some ⟨ck, 0, none⟩)] #[], after]

def cutLen (bs : List Nat) (k : Nat) : Nat := if k = bs.length ∧ 0 < bs.length ∧ fgt (wd bs (bs.length - 1)) 9218868437227405311 = true then bs.length - 1 else bs.length
def cutBs (bs : List Nat) : List Nat := if 0 < bs.length ∧ fgt (wd bs (bs.length - 1)) 9218868437227405311 = true then bs.dropLast else bs
structure NRel (w : World) (h u d ck cap : Nat) (bs : List Nat) (spare : List Value) (maxZero : Nat) (maxB mr t0 : Int) (k : Nat) (wr : World) : Prop where
  hh : IsBlock wr h (hCells d ck .nilIface (.slice (some ⟨u, 0, none⟩) (cutLen bs k) cap) (.func (.func 71) #[.pointer (some ⟨ck, 0, none⟩)] #[]) (.pointer none) (.pointer none) (-2147483648) 0 maxZero maxB mr t0 (.slice none 0 0) 0 (.slice none 0 0))
  hu : IsBlock wr u (f64s bs ++ spare)
  only : Only (fun _ => False) w wr
  inc : ∀ i, i < k → i + 1 < bs.length → fge (wd bs i) (wd bs (i + 1)) = false

theorem toList_made (z : Value) (n : Nat) : madeCells #[z] n = (List.replicate n z).toArray := by
  apply Array.toList_inj.1; rw [toList_madeCells_one]
theorem info30 : (Tryz.prog.info? 30).map (fun i => (i.zero, i.size, i.bytes)) = some (some (.int .u64 0), 1, 8) := by kernel_rfl
theorem info390 : (Tryz.prog.info? 390).map (fun i => (i.zero, i.size, i.bytes)) = some (some (.agg #[.nilIface]), 1, 16) := by kernel_rfl
theorem make_u64s (n : Nat) (hn : n ≤ 4611686018427) (w : World) :
    (Instr.makeSlice 154 (.int .i64 (n : Int)) (.int .i64 (n : Int))).run Tryz.prog w = .ok (.slice (some ⟨w.heap.size, 0, none⟩) n n) (w.alloc (.cells (List.replicate n (.int .u64 0)).toArray 30)) := by
  have h := run_make_row' (P := Tryz.prog) 154 30 (.int .u64 0) 8 Tryz.underlying154 info30 rfl .i64 .i64 n (by omega) (by omega) w
  rw [toList_made] at h; exact h
theorem make_anys (n : Nat) (hn : n ≤ 4611686018427) (w : World) :
    (Instr.makeSlice 240 (.int .i64 (n : Int)) (.int .i64 (n : Int))).run Tryz.prog w = .ok (.slice (some ⟨w.heap.size, 0, none⟩) n n) (w.alloc (.cells (List.replicate n .nilIface).toArray 390)) := by
  obtain ⟨i, hi, hz, hs, hb⟩ := info_parts info390
  have h := run_make (P := Tryz.prog) (w := w) 240 390 i _ Tryz.underlying240 hi hz .i64 .i64 n n (by omega) (Int.le_refl _) (by rw [hb]; omega) (by omega)
  rw [hs] at h
  simp only [Int.toNat_natCast, Nat.mul_one] at h
  rw [show (Value.agg #[Value.nilIface]).cells = #[Value.nilIface] from rfl, toList_made] at h; exact h

def Asc (bs : List Nat) : Prop := ∀ i, i + 1 < bs.length → fge (wd bs i) (wd bs (i + 1)) = false
def newS (bs : List Nat) (sch : Int) (zt maxZero : Nat) (maxB mr t0 ttl : Int) (nex : Value) : HSt :=
  { n := 0, hot := false, c := fun _ => ⟨0, 0, 0, zt, sch, 0, List.replicate bs.length 0, none, none⟩, bounds := bs, marks := List.replicate (bs.length + 1) .nilIface, sch := sch, zt := zt, maxZero := maxZero,
    maxB := maxB, minReset := mr, last := t0, sched := false, ttl := ttl, nex := nex }
structure NewAt (w w' : World) (ba : Option Addr) (d ck : Nat) (p : Pl) : Prop where
  own : ∀ k, p.own k → w.heap.size ≤ k
  u : ba = some ⟨p.u, 0, none⟩ ∨ w.heap.size ≤ p.u
  desc : p.desc = .pointer (some ⟨d, 0, none⟩)
  now : p.now = .func (.func 70) #[.pointer (some ⟨ck, 0, none⟩)] #[]
  labels : p.labels = .slice none 0 0
  after : p.after = .func (.func 71) #[.pointer (some ⟨ck, 0, none⟩)] #[]
  only : Only (fun _ => False) w w'
def NewPost (w : World) (ba : Option Addr) (d ck : Nat) (bs : List Nat) (sch : Int) (zt maxZero : Nat) (maxB mr t0 ttl : Int) (nex : Value) (e : Ending) (w' : World) : Prop :=
  (Asc bs ∧ ∃ p, e = .returned (.iface 227 (.pointer (some ⟨p.h, 0, none⟩))) ∧ HIn w' p (newS (cutBs bs) sch zt maxZero maxB mr t0 ttl nex) ∧ NewAt w w' ba d ck p) ∨
  (¬ Asc bs ∧ (∃ t v, e = .panicked [{ v := .iface t v, recovered := false }]) ∧ Only (fun _ => False) w w')

theorem cut_len (bs : List Nat) : cutLen bs bs.length = (cutBs bs).length := by
  unfold cutLen cutBs
  by_cases h : 0 < bs.length ∧ fgt (wd bs (bs.length - 1)) 9218868437227405311 = true
  · rw [if_pos ⟨rfl, h⟩, if_pos h, List.length_dropLast]
  · rw [if_neg (fun k => h k.2), if_neg h]
theorem cut_split (bs : List Nat) (spare : List Value) : ∃ sp, f64s bs ++ spare = f64s (cutBs bs) ++ sp := by
  unfold cutBs
  by_cases h : 0 < bs.length ∧ fgt (wd bs (bs.length - 1)) 9218868437227405311 = true
  · rw [if_pos h]
    have hne : bs ≠ [] := by intro e; rw [e] at h; exact absurd h.1 (by simp)
    refine ⟨f64s [bs.getLast hne] ++ spare, ?_⟩
    rw [← List.append_assoc]
    congr 1
    unfold f64s
    rw [← List.map_append, List.dropLast_concat_getLast]
  · rw [if_neg h]; exact ⟨spare, rfl⟩
theorem new_hin (w' : World) (bs : List Nat) (sp : List Value) (sch : Int) (zt maxZero : Nat) (maxB mr t0 ttl : Int) (nex : Value) (p : Pl) (hap : p.Apart)
    (hsp : p.spare = sp)
    (hh : IsBlock w' p.h ((newS bs sch zt maxZero maxB mr t0 ttl nex).cells p))
    (h0 : ∀ i, IsBlock w' (p.c i) [.int .u64 0, .int .u64 0, .int .u64 0, .int .u64 zt, .int .i32 sch, .int .u32 0, .slice (some ⟨p.b i, 0, none⟩) bs.length bs.length, .map none, .map none])
    (h1 : ∀ i, IsBlock w' (p.b i) (List.replicate bs.length (.int .u64 0))) (hu : IsBlock w' p.u (f64s bs ++ sp)) (hx : IsBlock w' p.ex (List.replicate (bs.length + 1) .nilIface)) : HIn w' p (newS bs sch zt maxZero maxB mr t0 ttl nex) where
  apart := hap
  hh := hh
  hc := fun i => by have := h0 i; simpa [CSt.cells, newS] using this
  hb := fun i => by have := h1 i; simpa [u64s, newS] using this
  hu := by rw [hsp]; exact hu
  hx := hx
  lb := fun i => by simp [newS]
  lx := by simp [newS]
  cold := ⟨rfl, rfl, rfl, by simp [newS]⟩
  bd := fun k => by simp [newS, wd, List.getD_eq_getElem?_getD, List.getElem?_replicate]; split <;> simp
  cd := rfl
  zd := Nat.le_refl _

theorem NRel.next {w wr : World} {h u d ck cap : Nat} {bs : List Nat} {spare : List Value} {maxZero : Nat} {maxB mr t0 : Int} {k : Nat} (R : NRel w h u d ck cap bs spare maxZero maxB mr t0 k wr) (hk : k + 1 < bs.length) (hg : fge (wd bs k) (wd bs (k + 1)) = false) :
    NRel w h u d ck cap bs spare maxZero maxB mr t0 (k + 1) wr := by
  have e : cutLen bs (k + 1) = cutLen bs k := by unfold cutLen; rw [if_neg (by omega), if_neg (by omega)]
  refine ⟨by rw [e]; exact R.hh, R.hu, R.only, fun i hi hl => ?_⟩
  rcases Nat.lt_or_ge i k with h | h
  · exact R.inc i h hl
  · have : i = k := by omega
    subst this; exact hg
theorem NRel.last {w wr : World} {h u d ck cap : Nat} {bs : List Nat} {spare : List Value} {maxZero : Nat} {maxB mr t0 : Int} {k : Nat} (R : NRel w h u d ck cap bs spare maxZero maxB mr t0 k wr) (hl : k + 1 = bs.length) (hg : fgt (wd bs k) 9218868437227405311 = false) :
    NRel w h u d ck cap bs spare maxZero maxB mr t0 (k + 1) wr := by
  have e : cutLen bs (k + 1) = cutLen bs k := by
    unfold cutLen
    have : bs.length - 1 = k := by omega
    rw [this, hg, if_neg (by simp), if_neg (by simp)]
  refine ⟨by rw [e]; exact R.hh, R.hu, R.only, fun i hi hl => ?_⟩
  exact R.inc i (by omega) hl
theorem NRel.lastInf {w wr : World} {h u d ck cap : Nat} {bs : List Nat} {spare : List Value} {maxZero : Nat} {maxB mr t0 : Int} {k : Nat} (R : NRel w h u d ck cap bs spare maxZero maxB mr t0 k wr) (hl : k + 1 = bs.length) (hg : fgt (wd bs k) 9218868437227405311 = true)
    (hh : w.heap.size ≤ h) (hu : u ≠ h) : NRel w h u d ck cap bs spare maxZero maxB mr t0 (k + 1) (wr.setCell ⟨h, 7, none⟩ (.slice (some ⟨u, 0, none⟩) k cap)) := by
  have e : cutLen bs (k + 1) = k := by
    unfold cutLen
    have : bs.length - 1 = k := by omega
    rw [this, hg, if_pos ⟨hl, by omega, rfl⟩]
  refine ⟨?_, R.hu.set_ne hu _, R.only.setCell (.inr hh) _, fun i hi hl => R.inc i (by omega) hl⟩
  rw [e]
  exact R.hh.set 7 _

set_option maxRecDepth 100000 in
set_option maxHeartbeats 1600000 in
theorem newHistogram_plain (d nb pb ck : Nat) (dcs : List Value) (ba : Option Addr) (bn bc : Nat) (fac zt maxZero : Nat) (maxB mr mex ttl t0 : Int) (w : World)
    (h3 : dcs[3]? = some (.slice (some ⟨pb, 0, none⟩) 0 0)) (h4 : dcs[4]? = some (.pointer (some ⟨nb, 0, none⟩))) (hd : IsBlock w d dcs) (hn : IsBlock w nb [.slice none 0 0, .map none]) (hck : w.cell? ⟨ck, 0, none⟩ = some (.int .i64 t0))
    (hf : (FloatKind.f64.format.order fac 4607182418800017408 == some .lt || FloatKind.f64.format.order fac 4607182418800017408 == some .eq) = true) (bs : List Nat) (spare : List Value) (hlen : bs.length ≤ 1048577) (hcp : bn ≤ bc) (hbs : bn = 0 ∧ bs = defBs ∧ spare = [] ∨ 0 < bn ∧ bn = bs.length ∧ ∃ u, ba = some ⟨u, 0, none⟩ ∧ IsBlock w u (f64s bs ++ spare)) :
    Calls Tryz.prog 88 #[.pointer (some ⟨d, 0, none⟩), .agg #[.string ⟨#[]⟩, .string ⟨#[]⟩, .string ⟨#[104]⟩, .string ⟨#[]⟩, .string ⟨#[]⟩, .map none, (.slice ba bn bc), .float .f64 fac, .float .f64 zt, .int .u32 maxB, .int .i64 mr, .float .f64 maxZero, .int .i64 mex, .int .i64 ttl, .func (.func 70) #[.pointer (some ⟨ck, 0, none⟩)] #[], .func (.func 71) #[.pointer (some ⟨ck, 0, none⟩)] #[]], .slice none 0 0] w
      fun e w' => NewPost w ba d ck bs (-2147483648) 0 maxZero maxB mr t0 0 (.slice none 0 0) e w' := by
  have dl := (hd.alloc (Obj.cells #[.string ⟨#[]⟩, .string ⟨#[]⟩, .string ⟨#[104]⟩, .string ⟨#[]⟩, .string ⟨#[]⟩, .map none, (.slice ba bn bc), .float .f64 fac, .float .f64 zt, .int .u32 maxB, .int .i64 mr, .float .f64 maxZero, .int .i64 mex, .int .i64 ttl, .func (.func 70) #[.pointer (some ⟨ck, 0, none⟩)] #[], .func (.func 71) #[.pointer (some ⟨ck, 0, none⟩)] #[]] 121))
  have nl := (hn.alloc (Obj.cells #[.string ⟨#[]⟩, .string ⟨#[]⟩, .string ⟨#[104]⟩, .string ⟨#[]⟩, .string ⟨#[]⟩, .map none, (.slice ba bn bc), .float .f64 fac, .float .f64 zt, .int .u32 maxB, .int .i64 mr, .float .f64 maxZero, .int .i64 mex, .int .i64 ttl, .func (.func 70) #[.pointer (some ⟨ck, 0, none⟩)] #[], .func (.func 71) #[.pointer (some ⟨ck, 0, none⟩)] #[]] 121))
  have d3 := dl.cell h3
  have d4 := dl.cell h4
  have n0 := nl.cell (i := 0) rfl
  have HD := Lib.hid hd
  have HN := Lib.hid hn
  clear dl nl hd hn
  go_enter Tryz.func88, Tryz.ntmps88
  go_wp2_with fail
  refine wp_loop_rounds 1 ?_
  rw [rounds_succ]
  go_wp2_with fail
  refine wp_loop_rounds 1 ?_
  rw [rounds_succ]
  go_upto_region 15 with fail
  clear d3 d4 n0
  have c3 : w.cell? ⟨d, 3, none⟩ = some _ := HD.out.cell h3
  have c4 : w.cell? ⟨d, 4, none⟩ = some _ := HD.out.cell h4
  have n0 : w.cell? ⟨nb, 0, none⟩ = some _ := HN.out.cell (i := 0) rfl
  have OB : Hid (IsBlock (w.alloc (.cells (oCells ck (.slice ba bn bc) (.func (.func 71) #[.pointer (some ⟨ck, 0, none⟩)] #[]) fac zt maxZero maxB mr mex ttl).toArray 121)) w.heap.size (oCells ck (.slice ba bn bc) (.func (.func 71) #[.pointer (some ⟨ck, 0, none⟩)] #[]) fac zt maxZero maxB mr mex ttl)) := Lib.hid (IsBlock.new _ _ _)
  have OO : Hid (Only (fun _ => False) w (w.alloc (.cells (oCells ck (.slice ba bn bc) (.func (.func 71) #[.pointer (some ⟨ck, 0, none⟩)] #[]) fac zt maxZero maxB mr mex ttl).toArray 121))) := Lib.hid ((Only.refl _ _).alloc _)
  have ld := cell_lt c3
  have ln := cell_lt n0
  have lc := cell_lt hck
  have f1 : (w.alloc (.cells (oCells ck (.slice ba bn bc) (.func (.func 71) #[.pointer (some ⟨ck, 0, none⟩)] #[]) fac zt maxZero maxB mr mex ttl).toArray 121)).cell? ⟨d, 3, none⟩ = some (.slice (some ⟨pb, 0, none⟩) 0 0) := OO.out.cell c3 id
  have f2 : (w.alloc (.cells (oCells ck (.slice ba bn bc) (.func (.func 71) #[.pointer (some ⟨ck, 0, none⟩)] #[]) fac zt maxZero maxB mr mex ttl).toArray 121)).cell? ⟨d, 4, none⟩ = some (.pointer (some ⟨nb, 0, none⟩)) := OO.out.cell c4 id
  have f3 : (w.alloc (.cells (oCells ck (.slice ba bn bc) (.func (.func 71) #[.pointer (some ⟨ck, 0, none⟩)] #[]) fac zt maxZero maxB mr mex ttl).toArray 121)).cell? ⟨nb, 0, none⟩ = some (.slice none 0 0) := OO.out.cell n0 id
  have f4 : (w.alloc (.cells (oCells ck (.slice ba bn bc) (.func (.func 71) #[.pointer (some ⟨ck, 0, none⟩)] #[]) fac zt maxZero maxB mr mex ttl).toArray 121)).cell? ⟨ck, 0, none⟩ = some (.int .i64 t0) := OO.out.cell hck id
  have g6 : (w.alloc (.cells (oCells ck (.slice ba bn bc) (.func (.func 71) #[.pointer (some ⟨ck, 0, none⟩)] #[]) fac zt maxZero maxB mr mex ttl).toArray 121)).cell? ⟨w.heap.size, 6, none⟩ = some (.slice ba bn bc) := OB.out.cell rfl
  have g9 : (w.alloc (.cells (oCells ck (.slice ba bn bc) (.func (.func 71) #[.pointer (some ⟨ck, 0, none⟩)] #[]) fac zt maxZero maxB mr mex ttl).toArray 121)).cell? ⟨w.heap.size, 9, none⟩ = some (.int .u32 maxB) := OB.out.cell rfl
  have g10 : (w.alloc (.cells (oCells ck (.slice ba bn bc) (.func (.func 71) #[.pointer (some ⟨ck, 0, none⟩)] #[]) fac zt maxZero maxB mr mex ttl).toArray 121)).cell? ⟨w.heap.size, 10, none⟩ = some (.int .i64 mr) := OB.out.cell rfl
  have g11 : (w.alloc (.cells (oCells ck (.slice ba bn bc) (.func (.func 71) #[.pointer (some ⟨ck, 0, none⟩)] #[]) fac zt maxZero maxB mr mex ttl).toArray 121)).cell? ⟨w.heap.size, 11, none⟩ = some (.float .f64 maxZero) := OB.out.cell rfl
  have g14 : (w.alloc (.cells (oCells ck (.slice ba bn bc) (.func (.func 71) #[.pointer (some ⟨ck, 0, none⟩)] #[]) fac zt maxZero maxB mr mex ttl).toArray 121)).cell? ⟨w.heap.size, 14, none⟩ = some (.func (.func 70) #[.pointer (some ⟨ck, 0, none⟩)] #[]) := OB.out.cell rfl
  have g15 : (w.alloc (.cells (oCells ck (.slice ba bn bc) (.func (.func 71) #[.pointer (some ⟨ck, 0, none⟩)] #[]) fac zt maxZero maxB mr mex ttl).toArray 121)).cell? ⟨w.heap.size, 15, none⟩ = some (.func (.func 71) #[.pointer (some ⟨ck, 0, none⟩)] #[]) := OB.out.cell rfl
  generalize hw1 : w.alloc (.cells (oCells ck (.slice ba bn bc) (.func (.func 71) #[.pointer (some ⟨ck, 0, none⟩)] #[]) fac zt maxZero maxB mr mex ttl).toArray 121) = w1 at *
  change Code.wp _ _ _ _ (w.alloc (.cells (oCells ck (.slice ba bn bc) (.func (.func 71) #[.pointer (some ⟨ck, 0, none⟩)] #[]) fac zt maxZero maxB mr mex ttl).toArray 121))
  rw [hw1]
  have hs1 : w1.heap.size = w.heap.size + 1 := by rw [← hw1]; simp
  clear hw1 c3 c4 n0
  go_cut [11] from 68 to 88 (fun hv wx => hv = .pointer (some ⟨w.heap.size + 1, 0, none⟩) ∧ IsBlock wx (w.heap.size + 1) (hCells d ck .nilIface (.slice ba bn bc) (.func (.func 71) #[.pointer (some ⟨ck, 0, none⟩)] #[]) (.pointer none) (.pointer none) 0 0 maxZero maxB mr t0 (.slice none 0 0) 0 (.slice none 0 0)) ∧ IsBlock wx w.heap.size (oCells ck (.slice ba bn bc) (.func (.func 71) #[.pointer (some ⟨ck, 0, none⟩)] #[]) fac zt maxZero maxB mr mex ttl) ∧ Only (fun _ => False) w wx)
  case first =>
    go_region_held3 (fun wx => wx.cell? ⟨d, 3, none⟩ = some (.slice (some ⟨pb, 0, none⟩) 0 0) ∧ wx.cell? ⟨d, 4, none⟩ = some (.pointer (some ⟨nb, 0, none⟩)) ∧ wx.cell? ⟨nb, 0, none⟩ = some (.slice none 0 0) ∧ wx.cell? ⟨ck, 0, none⟩ = some (.int .i64 t0) ∧
        wx.cell? ⟨w.heap.size, 6, none⟩ = some (.slice ba bn bc) ∧ wx.cell? ⟨w.heap.size, 9, none⟩ = some (.int .u32 maxB) ∧ wx.cell? ⟨w.heap.size, 10, none⟩ = some (.int .i64 mr) ∧ wx.cell? ⟨w.heap.size, 11, none⟩ = some (.float .f64 maxZero) ∧
        wx.cell? ⟨w.heap.size, 14, none⟩ = some (.func (.func 70) #[.pointer (some ⟨ck, 0, none⟩)] #[]) ∧ wx.cell? ⟨w.heap.size, 15, none⟩ = some (.func (.func 71) #[.pointer (some ⟨ck, 0, none⟩)] #[]))
      (refine ⟨?_, ?_, ?_, ?_, ?_, ?_, ?_, ?_, ?_, ?_⟩ <;> (first | assumption | (apply cell_past; assumption) | (simp only [World.cell?_drew, World.cell?_drewN]; repeat (first | assumption | apply cell_past))))
      (first
        | (go_at_call 102; refine (makeLabelPairs_cells d nb pb _ ?_ ?_ ?_).mono ?_; (simp [*]); (simp [*]); (simp [*]); rintro e w' ⟨rfl, k, rfl⟩)
        | (go_at_call 70; refine (now_any ck t0 _ ?_).mono ?_; (simp [*]); rintro e w' ⟨rfl, rfl⟩))
    go_wp2_with fail
    go_meet
    exact ⟨rfl, ⟨244, get_new _ _ _ (by simp [hs1])⟩, (OB.out.drewN _).alloc _, (OO.out.drewN _).alloc _⟩
  obtain ⟨rfl, hH, hO, hW⟩ := hcut
  clear f1 f2 f3 f4 g6 g9 g10 g11 g14 g15 OB OO hs1
  have k5 := hH.cell (i := 7) rfl
  have k7 := hO.cell (i := 7) rfl
  have HBS := Lib.hid hbs
  clear hbs hck
  go_upto_region 16 with fail
  go_cut [99] from 89 to 98 (fun c wx => c = .bool (decide (bn = 0)) ∧ wx = wc)
  case first =>
    by_cases hb : bn = 0
    · subst hb
      go_wp2_with fail
      go_meet
      exact ⟨rfl, rfl⟩
    · have hb' : (bn : Int) ≠ 0 := by omega
      go_wp2_with fail
      go_meet
      exact ⟨by simp [hb], rfl⟩
  obtain ⟨rfl, hwx⟩ := hcut
  subst hwx
  go_upto_if 99 with fail
  go_cut [] from 99 to 103 (fun wx => ∃ u cap, bs.length ≤ cap ∧ IsBlock wx (w.heap.size + 1) (hCells d ck .nilIface (.slice (some ⟨u, 0, none⟩) bs.length cap) (.func (.func 71) #[.pointer (some ⟨ck, 0, none⟩)] #[]) (.pointer none) (.pointer none) 0 0 maxZero maxB mr t0 (.slice none 0 0) 0 (.slice none 0 0)) ∧ IsBlock wx w.heap.size (oCells ck (.slice ba bn bc) (.func (.func 71) #[.pointer (some ⟨ck, 0, none⟩)] #[]) fac zt maxZero maxB mr mex ttl) ∧
      IsBlock wx u (f64s bs ++ spare) ∧ u ≠ w.heap.size ∧ u ≠ w.heap.size + 1 ∧ (ba = some ⟨u, 0, none⟩ ∨ w.heap.size ≤ u) ∧ Only (fun _ => False) w wx)
  case first =>
    rcases HBS.out with ⟨hb, rfl, rfl⟩ | ⟨hb, hl, u, hba, hu⟩
    · subst hb
      go_wp2_with fail
      refine (defBuckets_any _).mono ?_
      rintro e w' ⟨rfl, hw'⟩
      have kk : w'.cell? ⟨w.heap.size + 1, 7, none⟩ = some (.slice ba 0 bc) := by rw [hw']; exact (hH.alloc _).cell rfl
      have ff : w'.frozen? ⟨w.heap.size + 1, 7, none⟩ = false := by rw [hw']; exact (hH.alloc _).free 7
      have HW' := Lib.hid hw'
      clear hw'
      go_wp2_with fail
      go_meet
      have hw' := HW'.out
      have hlt := hH.lt
      refine ⟨wc.heap.size, 11, by decide, ?_, ?_, ?_, ?_, ?_, ?_, ?_⟩
      · rw [hw']; exact (hH.alloc _).set 7 _
      · rw [hw']; exact (hO.alloc _).set_ne (by simp) _
      · rw [hw']; exact ((IsBlock.new wc (f64s defBs) 25).set_ne (a := ⟨w.heap.size + 1, 7, none⟩) (by show wc.heap.size ≠ w.heap.size + 1; omega) _ : IsBlock _ wc.heap.size (f64s defBs))
      · omega
      · omega
      · right; omega
      · rw [hw']; exact (hW.alloc _).setCell (.inr (by show _ ≤ w.heap.size + 1; omega)) _
    · have hb' : ¬ bn = 0 := by omega
      have HL := Lib.hid hl
      have HA := Lib.hid hba
      clear hl hba
      go_wp2_with fail
      go_meet
      have hl := hu.lt
      refine ⟨u, bc, by have := HL.out; omega, ?_, hO, hW.isBlock hu id, by omega, by omega, .inl HA.out, hW⟩
      rw [← HL.out, ← HA.out]
      exact hH
  clear hH hO hW k5 k7 HBS
  obtain ⟨u, cap, hcap, hH, hO, hu, hu1, hu2, hu3, hW⟩ := hcut
  have k7 := hO.cell (i := 7) rfl
  have k10 := hH.cell (i := 10) rfl
  have f10 := hH.free 10
  have k5 := (hH.set 10 (.int .i32 (-2147483648))).cell (i := 7) rfl
  have HH := Lib.hid hH
  have HU := Lib.hid hu
  have HW := Lib.hid hW
  have HU3' := Lib.hid hu3
  clear hO hH hu hW hu3
  go_wp2_with fail
  have hn0 : (bs.length : Int) ≤ 1048577 := by omega
  have hn1 : (0 : Int) ≤ (bs.length : Int) := by omega
  have hcap' : (bs.length : Int) ≤ (cap : Int) := by omega
  have R0 : Hid (NRel w (w.heap.size + 1) u d ck cap bs spare maxZero maxB mr t0 0 (wc.setCell ⟨w.heap.size + 1, 10, none⟩ (.int .i32 (-2147483648)))) := Lib.hid
    { hh := by
        have e : cutLen bs 0 = bs.length := by unfold cutLen; rw [if_neg (by omega)]
        rw [e]; exact HH.out.set 10 _
      hu := HU.out.set_ne hu2 _
      only := HW.out.setCell (.inr (by show _ ≤ w.heap.size + 1; omega)) _
      inc := fun i hi _ => absurd hi (Nat.not_lt_zero _) }
  clear k5 k7 k10 f10
  generalize wc.setCell ⟨w.heap.size + 1, 10, none⟩ (.int .i32 (-2147483648)) = w2 at *
  go_loopw [145] (fun i wr => ∃ k : Nat, k ≤ bs.length ∧ i = .int .i64 k ∧ NRel w (w.heap.size + 1) u d ck cap bs spare maxZero maxB mr t0 k wr) (fun i _ => bs.length - (intOf i).toNat)
  case atStart => exact ⟨0, Nat.zero_le _, rfl, R0.out⟩
  case round =>
    obtain ⟨k, hk, rfl, hR⟩ := hrel
    have HR := Lib.hid hR
    clear hR
    by_cases hkn : k < bs.length
    · have hk0 : (0 : Int) ≤ (k : Int) := by omega
      have hk1 : (k : Int) < (bs.length : Int) := by omega
      have hcl : cutLen bs k = bs.length := by unfold cutLen; rw [if_neg (by omega)]
      have k5 : wr.cell? ⟨w.heap.size + 1, 7, none⟩ = some (.slice (some ⟨u, 0, none⟩) bs.length cap) := by
        have h := HR.out.hh.cell (i := 7) rfl
        rw [hcl] at h; exact h
      have f5 := HR.out.hh.free 7
      have cu : wr.cell? ⟨u, k, none⟩ = some (.float .f64 (wd bs k)) := HR.out.hu.cell (getD_f64s hkn)
      clear hcl
      by_cases hkk : k + 1 < bs.length
      · have hk2 : (k : Int) < (bs.length : Int) - 1 := by omega
        have hk3 : (k : Int) + 1 < (bs.length : Int) := by omega
        have cu1 : wr.cell? ⟨u, k + 1, none⟩ = some (.float .f64 (wd bs (k + 1))) := HR.out.hu.cell (getD_f64s hkk)
        cases hg : fge (wd bs k) (wd bs (k + 1))
        · have hge : (FloatKind.f64.format.order (wd bs k) (wd bs (k + 1)) == some .gt || FloatKind.f64.format.order (wd bs k) (wd bs (k + 1)) == some .eq) = false := hg
          have HGE := Lib.hid hg
          clear hg
          have HX := Lib.hid (HR.out.next hkk HGE.out)
          have HKN := Lib.hid hkk
          clear hkn hk hkk
          go_wp2_with fail
          refine ⟨⟨k + 1, by have := HKN.out; omega, by go_num, HX.out⟩, by have := HKN.out; simp [intOf]; omega⟩
        · have hge : (FloatKind.f64.format.order (wd bs k) (wd bs (k + 1)) == some .gt || FloatKind.f64.format.order (wd bs k) (wd bs (k + 1)) == some .eq) = true := hg
          have HGE := Lib.hid hg
          clear hg
          go_wp2_with fail
          refine (errNew_any _ _).mono ?_
          rintro e w' ⟨rfl, rfl⟩
          go_wp2_with fail
          refine ⟨rfl, ?_⟩
          exact .inr ⟨fun ha => (by have h := ha k hkk; rw [HGE.out] at h; cases h), ⟨_, _, rfl⟩, HR.out.only.alloc _⟩
      · have hk2 : ¬ (k : Int) < (bs.length : Int) - 1 := by omega
        cases hg : fgt (wd bs k) 9218868437227405311
        · have HX := Lib.hid (HR.out.last (by omega) hg)
          have HKN := Lib.hid hkn
          clear hkn hk hkk
          go_wp2_with fail
          refine (isInf_any _ _).mono ?_
          rintro e w' ⟨rfl, rfl⟩
          rw [hg]
          clear hg
          go_wp2_with fail
          refine ⟨⟨k + 1, by have := HKN.out; omega, by go_num, HX.out⟩, by have := HKN.out; simp [intOf]; omega⟩
        · have HX := Lib.hid (HR.out.lastInf (by omega) hg (by omega) hu2)
          have HKN := Lib.hid hkn
          have hk4 : (k : Int) ≤ (cap : Int) := by omega
          clear hkn hk hkk
          go_wp2_with fail
          refine (isInf_any _ _).mono ?_
          rintro e w' ⟨rfl, rfl⟩
          rw [hg]
          clear hg
          go_wp2_with fail
          refine ⟨⟨k + 1, by have := HKN.out; omega, by go_num, HX.out⟩, by have := HKN.out; simp [intOf]; omega⟩
    · have hke : k = bs.length := by omega
      subst hke
      have hk1 : ¬ (bs.length : Int) < (bs.length : Int) := by omega
      have k5 := HR.out.hh.cell (i := 7) rfl
      clear hkn hk
      go_upto_region 35 with fail
      have hcn : (cutLen bs bs.length : Int) ≤ 1048577 := by unfold cutLen; split <;> omega
      have hcn0 : (0 : Int) ≤ (cutLen bs bs.length : Int) := by omega
      have HCL : Hid (cutLen bs bs.length = (cutBs bs).length) := Lib.hid (cut_len bs)
      have hlt := HR.out.hh.lt
      generalize hN : cutLen bs bs.length = n at *
      have hmk := make_u64s n (by omega)
      have hhN : IsBlock wr (w.heap.size + 1) (hCells d ck .nilIface (.slice (some ⟨u, 0, none⟩) n cap) (.func (.func 71) #[.pointer (some ⟨ck, 0, none⟩)] #[]) (.pointer none) (.pointer none) (-2147483648) 0 maxZero maxB mr t0 (.slice none 0 0) 0 (.slice none 0 0)) := by
        have h := HR.out.hh
        rw [hN] at h; exact h
      have HNN := Lib.hid hN
      clear hN
      have h5b := (hhN.alloc (.cells (Array.replicate n (.int .u64 0)) 30)).alloc (.cells #[.int .u64 0, .int .u64 0, .int .u64 0, .int .u64 0, .int .i32 0, .int .u32 0, .slice (some ⟨wr.heap.size, 0, none⟩) n n, .map none, .map none] 253)
      have c5 := h5b.cell (i := 5) rfl
      have f5 := h5b.free 5
      have HB5 := Lib.hid h5b
      clear h5b
      go_region
      refine (?_ : ∀ w3, w3 = _ → Exit.then _ _ _ _ w3) _ rfl
      intro w3 hw3
      have hn2 : ((List.replicate n (Value.int .u64 0)).toArray : Array Value) = Array.replicate n (.int .u64 0) := by simp
      have HH3 : Hid (IsBlock w3 (w.heap.size + 1) _) := Lib.hid (by rw [hw3]; exact (HB5.out.set 5 _).drew)
      have HC3 : Hid (IsBlock w3 (wr.heap.size + 1) _) := Lib.hid (by
        have h := IsBlock.new (wr.alloc (.cells (Array.replicate n (.int .u64 0)) 30)) [.int .u64 0, .int .u64 0, .int .u64 0, .int .u64 0, .int .i32 0, .int .u32 0, .slice (some ⟨wr.heap.size, 0, none⟩) n n, .map none, .map none] 253
        rw [World.size_alloc] at h
        rw [hw3]; exact (h.set_ne (a := ⟨w.heap.size + 1, 5, none⟩) (by simp <;> omega) _).drew)
      have HA3 : Hid (IsBlock w3 wr.heap.size (List.replicate n (.int .u64 0))) := Lib.hid (by rw [hw3, ← hn2]; exact (((IsBlock.new wr (List.replicate n (.int .u64 0)) 30).alloc _).set_ne (a := ⟨w.heap.size + 1, 5, none⟩) (by simp <;> omega) _).drew)
      have HU3 : Hid (IsBlock w3 u (f64s bs ++ spare)) := Lib.hid (by rw [hw3]; exact (((HR.out.hu.alloc _).alloc _).set_ne (a := ⟨w.heap.size + 1, 5, none⟩) hu2 _).drew)
      have HW3 : Hid (Only (fun _ => False) w w3) := Lib.hid (by rw [hw3]; exact (((HR.out.only.alloc _).alloc _).setCell (.inr (by show _ ≤ w.heap.size + 1; omega)) _).drew)
      have HS3 : Hid (w3.heap.size = wr.heap.size + 2) := Lib.hid (by rw [hw3]; simp [World.drew])
      clear hw3 HB5 c5 f5 k5 hmk
      have k5 := HH3.out.cell (i := 5) rfl
      have k11 := HH3.out.cell (i := 11) rfl
      have c3 := HC3.out.cell (i := 3) rfl
      have f3 := HC3.out.free 3
      go_wp2_with fail
      go_region
      refine (?_ : ∀ w4, w4 = _ → Exit.then _ _ _ _ w4) _ rfl
      intro w4 hw4
      have HH4 : Hid (IsBlock w4 (w.heap.size + 1) _) := Lib.hid (by rw [hw4]; exact (HH3.out.set_ne (a := ⟨wr.heap.size + 1, 3, none⟩) (by simp <;> omega) _).drew)
      have HC4 : Hid (IsBlock w4 (wr.heap.size + 1) _) := Lib.hid (by rw [hw4]; exact (HC3.out.set 3 _).drew)
      have HA4 : Hid (IsBlock w4 wr.heap.size _) := Lib.hid (by rw [hw4]; exact (HA3.out.set_ne (a := ⟨wr.heap.size + 1, 3, none⟩) (by simp) _).drew)
      have HU4 : Hid (IsBlock w4 u _) := Lib.hid (by rw [hw4]; exact (HU3.out.set_ne (a := ⟨wr.heap.size + 1, 3, none⟩) (by have := HR.out.hu.lt; simp <;> omega) _).drew)
      have HW4 : Hid (Only (fun _ => False) w w4) := Lib.hid (by rw [hw4]; exact (HW3.out.setCell (.inr (by show _ ≤ wr.heap.size + 1; omega)) _).drew)
      have HS4 : Hid (w4.heap.size = wr.heap.size + 2) := Lib.hid (by rw [hw4]; simpa [World.drew] using HS3.out)
      clear hw4 HH3 HC3 HA3 HU3 HW3 HS3 k5 k11 c3 f3
      simp only [hCells, List.set] at HH4 HC4
      have k5 := HH4.out.cell (i := 5) rfl
      have k10 := HH4.out.cell (i := 10) rfl
      have c4 := HC4.out.cell (i := 4) rfl
      have f4 := HC4.out.free 4
      go_wp2_with fail
      go_region
      refine (?_ : ∀ w5, w5 = _ → Exit.then _ _ _ _ w5) _ rfl
      intro w5 hw5
      have HH5 : Hid (IsBlock w5 (w.heap.size + 1) _) := Lib.hid (by rw [hw5]; exact (HH4.out.set_ne (a := ⟨wr.heap.size + 1, 4, none⟩) (by simp <;> omega) _).drew)
      have HC5 : Hid (IsBlock w5 (wr.heap.size + 1) _) := Lib.hid (by rw [hw5]; exact (HC4.out.set 4 _).drew)
      have HA5 : Hid (IsBlock w5 wr.heap.size _) := Lib.hid (by rw [hw5]; exact (HA4.out.set_ne (a := ⟨wr.heap.size + 1, 4, none⟩) (by simp) _).drew)
      have HU5 : Hid (IsBlock w5 u _) := Lib.hid (by rw [hw5]; exact (HU4.out.set_ne (a := ⟨wr.heap.size + 1, 4, none⟩) (by have := HR.out.hu.lt; simp <;> omega) _).drew)
      have HW5 : Hid (Only (fun _ => False) w w5) := Lib.hid (by rw [hw5]; exact (HW4.out.setCell (.inr (by show _ ≤ wr.heap.size + 1; omega)) _).drew)
      have HS5 : Hid (w5.heap.size = wr.heap.size + 2) := Lib.hid (by rw [hw5]; simpa [World.drew] using HS4.out)
      clear hw5 HH4 HC4 HA4 HU4 HW4 HS4 k5 k10 c4 f4
      simp only [List.set] at HC5
      have hmk := make_u64s n (by omega)
      have k7 := HH5.out.cell (i := 7) rfl
      have h6b := (HH5.out.alloc (.cells (Array.replicate n (.int .u64 0)) 30)).alloc (.cells #[.int .u64 0, .int .u64 0, .int .u64 0, .int .u64 0, .int .i32 0, .int .u32 0, .slice (some ⟨w5.heap.size, 0, none⟩) n n, .map none, .map none] 253)
      have c6 := h6b.cell (i := 6) rfl
      have f6 := h6b.free 6
      have HB6 := Lib.hid h6b
      clear h6b
      go_wp2_with fail
      go_region
      refine (?_ : ∀ w6, w6 = _ → Exit.then _ _ _ _ w6) _ rfl
      intro w6 hw6
      have hn2 : ((List.replicate n (Value.int .u64 0)).toArray : Array Value) = Array.replicate n (.int .u64 0) := by simp
      have HH6 : Hid (IsBlock w6 (w.heap.size + 1) _) := Lib.hid (by rw [hw6]; exact (HB6.out.set 6 _).drew)
      have HC6 : Hid (IsBlock w6 (wr.heap.size + 1) _) := Lib.hid (by rw [hw6]; exact (((HC5.out.alloc _).alloc _).set_ne (a := ⟨w.heap.size + 1, 6, none⟩) (by have := HS5.out; have := HR.out.hu.lt; simp <;> omega) _).drew)
      have HA6 : Hid (IsBlock w6 wr.heap.size _) := Lib.hid (by rw [hw6]; exact (((HA5.out.alloc _).alloc _).set_ne (a := ⟨w.heap.size + 1, 6, none⟩) (by have := HS5.out; have := HR.out.hu.lt; simp <;> omega) _).drew)
      have HU6 : Hid (IsBlock w6 u _) := Lib.hid (by rw [hw6]; exact (((HU5.out.alloc _).alloc _).set_ne (a := ⟨w.heap.size + 1, 6, none⟩) (by have := HS5.out; have := HR.out.hu.lt; simp <;> omega) _).drew)
      have HD6 : Hid (IsBlock w6 (w5.heap.size + 1) _) := Lib.hid (by
        have h := IsBlock.new (w5.alloc (.cells (Array.replicate n (.int .u64 0)) 30)) [.int .u64 0, .int .u64 0, .int .u64 0, .int .u64 0, .int .i32 0, .int .u32 0, .slice (some ⟨w5.heap.size, 0, none⟩) n n, .map none, .map none] 253
        rw [World.size_alloc] at h
        rw [hw6]; exact (h.set_ne (a := ⟨w.heap.size + 1, 6, none⟩) (by have := HS5.out; simp <;> omega) _).drew)
      have HE6 : Hid (IsBlock w6 w5.heap.size (List.replicate n (.int .u64 0))) := Lib.hid (by rw [hw6, ← hn2]; exact (((IsBlock.new w5 (List.replicate n (.int .u64 0)) 30).alloc _).set_ne (a := ⟨w.heap.size + 1, 6, none⟩) (by have := HS5.out; simp <;> omega) _).drew)
      have HW6 : Hid (Only (fun _ => False) w w6) := Lib.hid (by rw [hw6]; exact (((HW5.out.alloc _).alloc _).setCell (.inr (by show _ ≤ w.heap.size + 1; omega)) _).drew)
      have HS6 : Hid (w6.heap.size = w5.heap.size + 2) := Lib.hid (by rw [hw6]; simp [World.drew])
      clear hw6 HB6 HH5 HC5 HA5 HU5 HW5 c6 f6 k7 hmk
      simp only [List.set] at HH6
      have k6 := HH6.out.cell (i := 6) rfl
      have k11 := HH6.out.cell (i := 11) rfl
      have c3 := HD6.out.cell (i := 3) rfl
      have f3 := HD6.out.free 3
      go_wp2_with fail
      go_region
      refine (?_ : ∀ w7, w7 = _ → Exit.then _ _ _ _ w7) _ rfl
      intro w7 hw7
      have HH7 : Hid (IsBlock w7 (w.heap.size + 1) _) := Lib.hid (by rw [hw7]; exact (HH6.out.set_ne (a := ⟨w5.heap.size + 1, 3, none⟩) (by have := HS5.out; have := HR.out.hu.lt; simp <;> omega) _).drew)
      have HC7 : Hid (IsBlock w7 (wr.heap.size + 1) _) := Lib.hid (by rw [hw7]; exact (HC6.out.set_ne (a := ⟨w5.heap.size + 1, 3, none⟩) (by have := HS5.out; have := HR.out.hu.lt; simp <;> omega) _).drew)
      have HA7 : Hid (IsBlock w7 wr.heap.size _) := Lib.hid (by rw [hw7]; exact (HA6.out.set_ne (a := ⟨w5.heap.size + 1, 3, none⟩) (by have := HS5.out; have := HR.out.hu.lt; simp <;> omega) _).drew)
      have HD7 : Hid (IsBlock w7 (w5.heap.size + 1) _) := Lib.hid (by rw [hw7]; exact (HD6.out.set 3 _).drew)
      have HE7 : Hid (IsBlock w7 w5.heap.size _) := Lib.hid (by rw [hw7]; exact (HE6.out.set_ne (a := ⟨w5.heap.size + 1, 3, none⟩) (by have := HS5.out; have := HR.out.hu.lt; simp <;> omega) _).drew)
      have HU7 : Hid (IsBlock w7 u _) := Lib.hid (by rw [hw7]; exact (HU6.out.set_ne (a := ⟨w5.heap.size + 1, 3, none⟩) (by have := HS5.out; have := HR.out.hu.lt; simp <;> omega) _).drew)
      have HW7 : Hid (Only (fun _ => False) w w7) := Lib.hid (by rw [hw7]; exact (HW6.out.setCell (.inr (by have := HS5.out; show _ ≤ w5.heap.size + 1; omega)) _).drew)
      have HS7 : Hid (w7.heap.size = w5.heap.size + 2) := Lib.hid (by rw [hw7]; simpa [World.drew] using HS6.out)
      clear hw7 HH6 HC6 HA6 HD6 HE6 HU6 HW6 HS6
      simp only [List.set] at HD7
      clear k6 k11 c3 f3
      have k6 := HH7.out.cell (i := 6) rfl
      have k10 := HH7.out.cell (i := 10) rfl
      have c4 := HD7.out.cell (i := 4) rfl
      have f4 := HD7.out.free 4
      go_wp2_with fail
      go_region
      refine (?_ : ∀ w8, w8 = _ → Exit.then _ _ _ _ w8) _ rfl
      intro w8 hw8
      have HH8 : Hid (IsBlock w8 (w.heap.size + 1) _) := Lib.hid (by rw [hw8]; exact (HH7.out.set_ne (a := ⟨w5.heap.size + 1, 4, none⟩) (by have := HS5.out; have := HR.out.hu.lt; simp <;> omega) _).drew)
      have HC8 : Hid (IsBlock w8 (wr.heap.size + 1) _) := Lib.hid (by rw [hw8]; exact (HC7.out.set_ne (a := ⟨w5.heap.size + 1, 4, none⟩) (by have := HS5.out; have := HR.out.hu.lt; simp <;> omega) _).drew)
      have HA8 : Hid (IsBlock w8 wr.heap.size _) := Lib.hid (by rw [hw8]; exact (HA7.out.set_ne (a := ⟨w5.heap.size + 1, 4, none⟩) (by have := HS5.out; have := HR.out.hu.lt; simp <;> omega) _).drew)
      have HD8 : Hid (IsBlock w8 (w5.heap.size + 1) _) := Lib.hid (by rw [hw8]; exact (HD7.out.set 4 _).drew)
      have HE8 : Hid (IsBlock w8 w5.heap.size _) := Lib.hid (by rw [hw8]; exact (HE7.out.set_ne (a := ⟨w5.heap.size + 1, 4, none⟩) (by have := HS5.out; have := HR.out.hu.lt; simp <;> omega) _).drew)
      have HU8 : Hid (IsBlock w8 u _) := Lib.hid (by rw [hw8]; exact (HU7.out.set_ne (a := ⟨w5.heap.size + 1, 4, none⟩) (by have := HS5.out; have := HR.out.hu.lt; simp <;> omega) _).drew)
      have HW8 : Hid (Only (fun _ => False) w w8) := Lib.hid (by rw [hw8]; exact (HW7.out.setCell (.inr (by have := HS5.out; show _ ≤ w5.heap.size + 1; omega)) _).drew)
      have HS8 : Hid (w8.heap.size = w5.heap.size + 2) := Lib.hid (by rw [hw8]; simpa [World.drew] using HS7.out)
      clear hw8 HH7 HC7 HA7 HD7 HE7 HU7 HW7 HS7
      simp only [List.set] at HD8
      clear k6 k10 c4 f4
      have hmk := make_anys (n + 1) (by omega)
      simp only [Int.natCast_add, Int.natCast_one] at hmk
      have k7 := HH8.out.cell (i := 7) rfl
      have h9b := HH8.out.alloc (.cells (Array.replicate (n + 1) .nilIface) 390)
      have c9 := h9b.cell (i := 9) rfl
      have f9 := h9b.free 9
      have HB9 := Lib.hid h9b
      clear h9b
      go_wp2_with fail
      have hn3 : ((List.replicate (n + 1) Value.nilIface).toArray : Array Value) = Array.replicate (n + 1) .nilIface := by simp
      refine (selfInit_any (w.heap.size + 1) 1 _ 227 (some ⟨w.heap.size + 1, 0, none⟩) _ _ (HB9.out.set 9 _) rfl).mono ?_
      rintro e w9 ⟨rfl, hw9⟩
      have HH9 : Hid (IsBlock w9 (w.heap.size + 1) _) := Lib.hid (by rw [hw9]; exact (HB9.out.set 9 _).set 1 _)
      have HX9 : IsBlock w9 w8.heap.size (List.replicate (n + 1) .nilIface) := by
        rw [hw9, ← hn3]; exact ((IsBlock.new w8 (List.replicate (n + 1) .nilIface) 390).set_ne (a := ⟨w.heap.size + 1, 9, none⟩) (by have := HS5.out; have := HS8.out; simp <;> omega) _).set_ne (a := ⟨w.heap.size + 1, 1, none⟩) (by have := HS5.out; have := HS8.out; simp <;> omega) _
      have HC9 : Hid (IsBlock w9 (wr.heap.size + 1) _) := Lib.hid (by rw [hw9]; exact ((HC8.out.alloc _).set_ne (a := ⟨w.heap.size + 1, 9, none⟩) (by have := HS5.out; have := HR.out.hu.lt; simp <;> omega) _).set_ne (a := ⟨w.heap.size + 1, 1, none⟩) (by have := HS5.out; have := HR.out.hu.lt; simp <;> omega) _)
      have HA9 : Hid (IsBlock w9 wr.heap.size _) := Lib.hid (by rw [hw9]; exact ((HA8.out.alloc _).set_ne (a := ⟨w.heap.size + 1, 9, none⟩) (by have := HS5.out; have := HR.out.hu.lt; simp <;> omega) _).set_ne (a := ⟨w.heap.size + 1, 1, none⟩) (by have := HS5.out; have := HR.out.hu.lt; simp <;> omega) _)
      have HD9 : Hid (IsBlock w9 (w5.heap.size + 1) _) := Lib.hid (by rw [hw9]; exact ((HD8.out.alloc _).set_ne (a := ⟨w.heap.size + 1, 9, none⟩) (by have := HS5.out; have := HR.out.hu.lt; simp <;> omega) _).set_ne (a := ⟨w.heap.size + 1, 1, none⟩) (by have := HS5.out; have := HR.out.hu.lt; simp <;> omega) _)
      have HE9 : Hid (IsBlock w9 w5.heap.size _) := Lib.hid (by rw [hw9]; exact ((HE8.out.alloc _).set_ne (a := ⟨w.heap.size + 1, 9, none⟩) (by have := HS5.out; have := HR.out.hu.lt; simp <;> omega) _).set_ne (a := ⟨w.heap.size + 1, 1, none⟩) (by have := HS5.out; have := HR.out.hu.lt; simp <;> omega) _)
      have HU9 : Hid (IsBlock w9 u _) := Lib.hid (by rw [hw9]; exact ((HU8.out.alloc _).set_ne (a := ⟨w.heap.size + 1, 9, none⟩) (by have := HS5.out; have := HR.out.hu.lt; simp <;> omega) _).set_ne (a := ⟨w.heap.size + 1, 1, none⟩) (by have := HS5.out; have := HR.out.hu.lt; simp <;> omega) _)
      have HW9 : Only (fun _ => False) w w9 := by
        rw [hw9]; exact ((HW8.out.alloc _).setCell (.inr (by show _ ≤ w.heap.size + 1; omega)) _).setCell (.inr (by show _ ≤ w.heap.size + 1; omega)) _
      obtain ⟨sp, hsp⟩ := cut_split bs spare
      have HF : Hid (NewPost w ba d ck bs (-2147483648) 0 maxZero maxB mr t0 0 (.slice none 0 0) (.returned (.iface 227 (.pointer (some ⟨w.heap.size + 1, 0, none⟩)))) w9) := Lib.hid (by
        have hS5 := HS5.out
        have hS8 := HS8.out
        have hul := HR.out.hu.lt
        have hnn := HCL.out
        subst hnn
        have hu9 := HU9.out
        rw [hsp] at hu9
        refine .inl ⟨fun i hi => HR.out.inc i (by omega) hi, ⟨w.heap.size + 1, fun b => if b then w5.heap.size + 1 else wr.heap.size + 1, fun b => if b then w5.heap.size else wr.heap.size, u, w8.heap.size, cap, sp, .iface 227 (.pointer (some ⟨w.heap.size + 1, 0, none⟩)), .pointer (some ⟨d, 0, none⟩), .slice none 0 0,
          .func (.func 70) #[.pointer (some ⟨ck, 0, none⟩)] #[], .func (.func 71) #[.pointer (some ⟨ck, 0, none⟩)] #[]⟩, rfl, new_hin w9 (cutBs bs) sp (-2147483648) 0 maxZero maxB mr t0 0 (.slice none 0 0) _ ?_ rfl ?_ ?_ ?_ hu9 HX9, ?_⟩
        · exact
            { hc := fun i => by cases i <;> simp <;> omega
              hb := fun i => by cases i <;> simp <;> omega
              hu := by simp; omega
              hx := by simp; omega
              cc := by simp; omega
              cb := fun i j => by cases i <;> cases j <;> simp <;> omega
              cu := fun i => by cases i <;> simp <;> omega
              cx := fun i => by cases i <;> simp <;> omega
              bb := by simp; omega
              bu := fun i => by cases i <;> simp <;> omega
              bx := fun i => by cases i <;> simp <;> omega
              ux := by simp; omega }
        · exact HH9.out
        · intro i; cases i
          · exact HC9.out
          · exact HD9.out
        · intro i; cases i
          · exact HA9.out
          · exact HE9.out
        · exact
            { own := fun k hk => by rcases hk with rfl | rfl | rfl | rfl | rfl | rfl <;> simp <;> omega
              u := HU3'.out
              desc := rfl
              now := rfl
              labels := rfl
              after := rfl
              only := HW9 })
      clear hw9 HH9 HX9 HC9 HA9 HD9 HE9 HU9 HW9 hsp
      go_wp2_with fail
      go_ret
      exact HF.out
end Go.Proofs.YtebjclmbacmilaaGreatDoor

namespace Go.Proofs.YtebjclmbacmilaaGreatDoor
open Go.RowKit

theorem withUnit_any (s : ByteArray) (w : World) :
    Calls Tryz.prog 91 #[.string s] w fun e w' => e = .returned (.func (.func 121) #[] #[.pointer (some ⟨w.heap.size, 0, none⟩)]) ∧ w' = w.alloc (.cells #[.string s] 9) := by
  have hmf : ∀ (fn : Fn) (first cap : Array Value) (w : World), (Instr.makeFunc fn first cap).run Tryz.prog w = .ok (.func fn first cap) w := fun _ _ _ _ => rfl
  go_enter Tryz.func91, Tryz.ntmps91
  go_wp2_with fail
  go_ret
  exact ⟨rfl, rfl⟩

def oCells2 (ck : Nat) (ba : Option Addr) (bn bc fac zt maxZero : Nat) (maxB mr mex ttl : Int) : List Value :=
  oCells ck (.slice ba bn bc) (.func (.func 71) #[.pointer (some ⟨ck, 0, none⟩)] #[]) fac zt maxZero maxB mr mex ttl

theorem below_al {b : Nat} {w1 wc : World} (hb : w1.heap.size = b) (h : Below b w1 wc) (o : Obj) : Below b w1 (wc.alloc o) := h.alloc (by have := h.size; omega) o
theorem below_st {b : Nat} {w1 wc w' : World} (hb : w1.heap.size = b) (h : Below b w1 wc) (k : Below wc.heap.size wc w') : Below b w1 w' := h.trans (k.mono (by have := h.size; omega))

theorem blk_new (w : World) (cs : List Value) (T : TypeId) (k : Nat) (h : k = w.heap.size) : IsBlock (w.alloc (.cells cs.toArray T)) k cs := by subst h; exact IsBlock.new w cs T
theorem below_of_only {w w' : World} (h : Only (fun _ => False) w w') : Below w.heap.size w w' := ⟨h.os, h.tape, h.output, h.size, fun k hk => h.block k hk id⟩
theorem only_of_below {w w' : World} (h : Below w.heap.size w w') : Only (fun _ => False) w w' := ⟨h.os, h.tape, h.output, h.size, fun k hk _ => h.block k hk⟩
theorem NewAt.mono {w wz w' : World} {ba : Option Addr} {d ck : Nat} {p : Pl} (h : NewAt wz w' ba d ck p) (hb : Below w.heap.size w wz) : NewAt w w' ba d ck p :=
  { h with own := fun k hk => Nat.le_trans hb.size (h.own k hk), u := h.u.imp id (Nat.le_trans hb.size), only := (only_of_below hb).trans h.only }

set_option maxRecDepth 100000 in
set_option maxHeartbeats 1600000 in
theorem newHistogram73 (ck : Nat) (ba : Option Addr) (bn bc fac zt maxZero : Nat) (maxB mr mex ttl t0 : Int) (gs : Addr) (gc : Nat) (w : World) (hck : w.cell? ⟨ck, 0, none⟩ = some (.int .i64 t0))
    (hg : w.cell? ⟨2, 0, none⟩ = some (.slice (some gs) 1 gc)) (hgs : w.cell? gs = some (.int .u8 255))
    (hf : (FloatKind.f64.format.order fac 4607182418800017408 == some .lt || FloatKind.f64.format.order fac 4607182418800017408 == some .eq) = true) (bs : List Nat) (spare : List Value) (hlen : bs.length ≤ 1048577) (hcp : bn ≤ bc) (hbs : bn = 0 ∧ bs = defBs ∧ spare = [] ∨ 0 < bn ∧ bn = bs.length ∧ ∃ u, ba = some ⟨u, 0, none⟩ ∧ IsBlock w u (f64s bs ++ spare)) (hasc : Asc bs) :
    Calls Tryz.prog 73 #[.agg #[.string ⟨#[]⟩, .string ⟨#[]⟩, .string ⟨#[104]⟩, .string ⟨#[]⟩, .string ⟨#[]⟩, .map none, .slice ba bn bc, .float .f64 fac, .float .f64 zt, .int .u32 maxB, .int .i64 mr, .float .f64 maxZero, .int .i64 mex, .int .i64 ttl, .func (.func 70) #[.pointer (some ⟨ck, 0, none⟩)] #[], .func (.func 71) #[.pointer (some ⟨ck, 0, none⟩)] #[]]] w
      fun e w' => ∃ d p, e = .returned (.iface 227 (.pointer (some ⟨p.h, 0, none⟩))) ∧ HIn w' p (newS (cutBs bs) (-2147483648) 0 maxZero maxB mr t0 0 (.slice none 0 0)) ∧ NewAt w w' ba d ck p := by
  have HBS := Lib.hid hbs
  have HASC := Lib.hid hasc
  clear hbs hasc
  go_enter Tryz.func73, Tryz.ntmps73
  go_upto_region 1 with fail
  have hO := IsBlock.new w (oCells2 ck ba bn bc fac zt maxZero maxB mr mex ttl) 121
  have hW : Below w.heap.size w (w.alloc (.cells (oCells2 ck ba bn bc fac zt maxZero maxB mr mex ttl).toArray 121)) := (Below.refl _ w).alloc (Nat.le_refl _) _
  refine (?_ : ∀ w1, w1 = w.alloc (.cells (oCells2 ck ba bn bc fac zt maxZero maxB mr mex ttl).toArray 121) → Code.wp _ _ _ _ w1) _ rfl
  intro w1 hw1
  rw [← hw1] at hO hW
  have hs1 : w1.heap.size = w.heap.size + 1 := by rw [hw1]; simp
  have HO := Lib.hid hO
  have HW := Lib.hid hW
  have HS : Hid (∀ wx, Below (w.heap.size + 1) w1 wx → Below (w.heap.size + 1) w1 wx ∧ wx.cell? ⟨w.heap.size, 0, none⟩ = some (.string ⟨#[]⟩) ∧ wx.cell? ⟨w.heap.size, 1, none⟩ = some (.string ⟨#[]⟩) ∧ wx.cell? ⟨w.heap.size, 2, none⟩ = some (.string ⟨#[104]⟩) ∧ wx.cell? ⟨w.heap.size, 3, none⟩ = some (.string ⟨#[]⟩) ∧ wx.cell? ⟨w.heap.size, 4, none⟩ = some (.string ⟨#[]⟩) ∧ wx.cell? ⟨w.heap.size, 5, none⟩ = some (.map none) ∧ wx.cell? ⟨w.heap.size, 6, none⟩ = some (.slice ba bn bc) ∧ wx.cell? ⟨w.heap.size, 7, none⟩ = some (.float .f64 fac) ∧ wx.cell? ⟨w.heap.size, 8, none⟩ = some (.float .f64 zt) ∧ wx.cell? ⟨w.heap.size, 9, none⟩ = some (.int .u32 maxB) ∧ wx.cell? ⟨w.heap.size, 10, none⟩ = some (.int .i64 mr) ∧ wx.cell? ⟨w.heap.size, 11, none⟩ = some (.float .f64 maxZero) ∧ wx.cell? ⟨w.heap.size, 12, none⟩ = some (.int .i64 mex) ∧ wx.cell? ⟨w.heap.size, 13, none⟩ = some (.int .i64 ttl) ∧ wx.cell? ⟨w.heap.size, 14, none⟩ = some (.func (.func 70) #[.pointer (some ⟨ck, 0, none⟩)] #[]) ∧ wx.cell? ⟨w.heap.size, 15, none⟩ = some (.func (.func 71) #[.pointer (some ⟨ck, 0, none⟩)] #[]) ∧ wx.cell? ⟨2, 0, none⟩ = some (.slice (some gs) 1 gc) ∧ wx.cell? gs = some (.int .u8 255) ∧ wx.cell? ⟨ck, 0, none⟩ = some (.int .i64 t0)) := Lib.hid (fun wx hb =>
    have o := bblock hb hs1 HO.out
    ⟨hb, o.cell rfl, o.cell rfl, o.cell rfl, o.cell rfl, o.cell rfl, o.cell rfl, o.cell rfl, o.cell rfl, o.cell rfl, o.cell rfl, o.cell rfl, o.cell rfl, o.cell rfl, o.cell rfl, o.cell rfl, o.cell rfl, bcell hb hs1 (bcell HW.out rfl hg), bcell hb hs1 (bcell HW.out rfl hgs), bcell hb hs1 (bcell HW.out rfl hck)⟩)
  obtain ⟨b0, c0, c1, c2, c3, c4, c5, c6, c7, c8, c9, c10, c11, c12, c13, c14, c15, c16, c17, c18⟩ := HS.out w1 (Below.refl _ _)
  clear hw1 hO hW hck hg hgs
  go_region_held3 (fun wx => Below (w.heap.size + 1) w1 wx ∧ wx.cell? ⟨w.heap.size, 0, none⟩ = some (.string ⟨#[]⟩) ∧ wx.cell? ⟨w.heap.size, 1, none⟩ = some (.string ⟨#[]⟩) ∧ wx.cell? ⟨w.heap.size, 2, none⟩ = some (.string ⟨#[104]⟩) ∧ wx.cell? ⟨w.heap.size, 3, none⟩ = some (.string ⟨#[]⟩) ∧ wx.cell? ⟨w.heap.size, 4, none⟩ = some (.string ⟨#[]⟩) ∧ wx.cell? ⟨w.heap.size, 5, none⟩ = some (.map none) ∧ wx.cell? ⟨w.heap.size, 6, none⟩ = some (.slice ba bn bc) ∧ wx.cell? ⟨w.heap.size, 7, none⟩ = some (.float .f64 fac) ∧ wx.cell? ⟨w.heap.size, 8, none⟩ = some (.float .f64 zt) ∧ wx.cell? ⟨w.heap.size, 9, none⟩ = some (.int .u32 maxB) ∧ wx.cell? ⟨w.heap.size, 10, none⟩ = some (.int .i64 mr) ∧ wx.cell? ⟨w.heap.size, 11, none⟩ = some (.float .f64 maxZero) ∧ wx.cell? ⟨w.heap.size, 12, none⟩ = some (.int .i64 mex) ∧ wx.cell? ⟨w.heap.size, 13, none⟩ = some (.int .i64 ttl) ∧ wx.cell? ⟨w.heap.size, 14, none⟩ = some (.func (.func 70) #[.pointer (some ⟨ck, 0, none⟩)] #[]) ∧ wx.cell? ⟨w.heap.size, 15, none⟩ = some (.func (.func 71) #[.pointer (some ⟨ck, 0, none⟩)] #[]) ∧ wx.cell? ⟨2, 0, none⟩ = some (.slice (some gs) 1 gc) ∧ wx.cell? gs = some (.int .u8 255) ∧ wx.cell? ⟨ck, 0, none⟩ = some (.int .i64 t0))
    ((refine HS.out _ ?_; repeat (first | exact Below.refl _ _ | assumption | exact And.left (by assumption) | refine Below.drew ?_ | refine below_al hs1 ?_ _ | refine below_st hs1 ?_ (by assumption))))
    (first
      | (go_at_call 90; refine (buildFQName_h _).mono ?_; rintro e w' ⟨rfl, hbl⟩)
      | (go_at_call 91; refine (withUnit_any _ _).mono ?_; rintro e w' ⟨rfl, rfl⟩)
      | (go_at_call 89; refine (newDesc_h _ _ gs gc _ (blk_new _ _ _ _ (World.size_alloc _ _).symm) (by first | exact IsBlock.alloc (blk_new _ _ _ _ rfl) _ | exact IsBlock.alloc (bblock hbl rfl (blk_new _ _ _ _ rfl)) _) (HS.out _ (by (repeat (first | exact Below.refl _ _ | assumption | exact And.left (by assumption) | refine Below.drew ?_ | refine below_al hs1 ?_ _ | refine below_st hs1 ?_ (by assumption))))).2.2.2.2.2.2.2.2.2.2.2.2.2.2.2.2.2.1 (HS.out _ (by (repeat (first | exact Below.refl _ _ | assumption | exact And.left (by assumption) | refine Below.drew ?_ | refine below_al hs1 ?_ _ | refine below_st hs1 ?_ (by assumption))))).2.2.2.2.2.2.2.2.2.2.2.2.2.2.2.2.2.2.1).mono ?_; rintro e w2 ⟨pp, s2, s3, rfl, hd, hn, hbl2⟩; (simp only [World.size_alloc] at hd hn))
      | (go_at_call 88; have hb0 : Below w.heap.size w w2 := HW.out.trans ((by (repeat (first | exact Below.refl _ _ | assumption | exact And.left (by assumption) | refine Below.drew ?_ | refine below_al hs1 ?_ _ | refine below_st hs1 ?_ (by assumption))) : Below (w.heap.size + 1) w1 w2).mono (Nat.le_succ _)); refine (newHistogram_plain _ _ _ ck _ ba bn bc fac zt maxZero maxB mr mex ttl t0 _ rfl rfl hd hn (HS.out _ (by (repeat (first | exact Below.refl _ _ | assumption | exact And.left (by assumption) | refine Below.drew ?_ | refine below_al hs1 ?_ _ | refine below_st hs1 ?_ (by assumption))))).2.2.2.2.2.2.2.2.2.2.2.2.2.2.2.2.2.2.2 hf bs spare hlen hcp (HBS.out.imp id (fun ⟨a, b, u, c, q⟩ => ⟨a, b, u, c, bblock (HW.out.trans ((by (repeat (first | exact Below.refl _ _ | assumption | exact And.left (by assumption) | refine Below.drew ?_ | refine below_al hs1 ?_ _ | refine below_st hs1 ?_ (by assumption))) : Below (w.heap.size + 1) w1 _).mono (Nat.le_succ _))) rfl q⟩))).mono ?_; intro e w3 hp; obtain ⟨_, q, rfl, hin, hat⟩ := hp.resolve_right (fun h => h.1 HASC.out); have hbl3 := below_of_only hat.only; have hfin := hat.mono hb0; clear hat hb0))
  go_wp2_with fail
  go_ret
  exact ⟨_, _, rfl, by assumption, by assumption⟩
end Go.Proofs.YtebjclmbacmilaaGreatDoor
