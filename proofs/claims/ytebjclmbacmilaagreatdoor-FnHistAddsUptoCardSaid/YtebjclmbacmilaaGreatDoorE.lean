/- The state of a histogram in memory, and the contract of (*histogram).observe where there are classic buckets alone. Conditions: fewer than 2^63 observations. -/
import Derived.Test.YtebjclmbacmilaaGreatDoorD
namespace Go.Proofs.YtebjclmbacmilaaGreatDoor
open Go.RowKit

/-- The word that counts the calls of Observe and bears the hot index in its highest bit. -/
def idxVal (n : Nat) (hot : Bool) : Int := (n : Int) + (if hot then 9223372036854775808 else 0)
def hotIdx (hot : Bool) : Int := if hot then 1 else 0

theorem idxVal_incr {a : Addr} {n : Nat} {hot : Bool} {w : World} (hc : w.cell? a = some (.int .u64 (idxVal n hot))) (hz : w.frozen? a = false) (hn : n + 1 < 2 ^ 63) :
    (callFunc 246 #[.pointer (some a), .int .u64 1]).run Tryz.prog w = .ok (.value (.int .u64 (idxVal (n + 1) hot))) (w.setCell a (.int .u64 (idxVal (n + 1) hot))) := by
  have h := add_u64 (y := 1) hc hz
  have e : IntKind.u64.wrap (idxVal n hot + 1) = idxVal (n + 1) hot := by
    show ((idxVal n hot + 1) % 2 ^ 64) = _
    unfold idxVal
    cases hot <;> simp only [Bool.false_eq_true, if_false, if_true] <;> omega
  rw [e] at h
  exact h

theorem idxVal_div0 (n : Nat) (hn : n < 2 ^ 63) : idxVal n false / 9223372036854775808 = 0 := by
  unfold idxVal; simp only [Bool.false_eq_true, if_false]; omega
theorem idxVal_div1 (n : Nat) (hn : n < 2 ^ 63) : idxVal n true / 9223372036854775808 = 1 := by
  unfold idxVal; simp only [if_true]; omega

/-- Where a histogram lies: its struct, the two structs of counts, their buckets, the bounds, the exemplars; and what no call turns. -/
structure Pl where
  h : Nat
  c : Bool → Nat
  b : Bool → Nat
  u : Nat
  ex : Nat
  ucap : Nat
  spare : List Value
  self : Value
  desc : Value
  labels : Value
  now : Value
  after : Value

structure CSt where
  sum : Nat
  cnt : Nat
  zero : Nat
  zt : Nat
  sch : Int
  nb : Int
  bk : List Nat
  pos : Option Nat
  neg : Option Nat

structure HSt where
  n : Nat
  hot : Bool
  c : Bool → CSt
  bounds : List Nat
  marks : List Value
  sch : Int
  zt : Nat
  maxZero : Nat
  maxB : Int
  minReset : Int
  last : Int
  sched : Bool
  ttl : Int
  nex : Value

def u64s (l : List Nat) : List Value := l.map fun (k : Nat) => Value.int .u64 (k : Int)
def f64s (l : List Nat) : List Value := l.map fun (k : Nat) => Value.float .f64 k

def CSt.cells (s : CSt) (b : Nat) : List Value :=
  [.int .u64 s.sum, .int .u64 s.cnt, .int .u64 s.zero, .int .u64 s.zt, .int .i32 s.sch, .int .u32 s.nb, .slice (some ⟨b, 0, none⟩) s.bk.length s.bk.length, .map s.pos, .map s.neg]

def HSt.cells (s : HSt) (p : Pl) : List Value :=
  [.int .u64 (idxVal s.n s.hot), p.self, p.desc, .int .i32 0, .int .u32 0, .pointer (some ⟨p.c false, 0, none⟩), .pointer (some ⟨p.c true, 0, none⟩), .slice (some ⟨p.u, 0, none⟩) s.bounds.length p.ucap, p.labels,
    .slice (some ⟨p.ex, 0, none⟩) (s.bounds.length + 1) (s.bounds.length + 1), .int .i32 s.sch, .float .f64 s.zt, .float .f64 s.maxZero, .int .u32 s.maxB, .int .i64 s.minReset, .int .i64 s.last, .bool s.sched,
    .int .i32 0, .int .u32 0, .int .i64 s.ttl, s.nex, p.now, p.after]

/-- The blocks that calls of the histogram write. -/
def Pl.own (p : Pl) (k : Nat) : Prop := k = p.h ∨ k = p.c false ∨ k = p.c true ∨ k = p.b false ∨ k = p.b true ∨ k = p.ex

structure Pl.Apart (p : Pl) : Prop where
  hc : ∀ i, p.h ≠ p.c i
  hb : ∀ i, p.h ≠ p.b i
  hu : p.h ≠ p.u
  hx : p.h ≠ p.ex
  cc : p.c false ≠ p.c true
  cb : ∀ i j, p.c i ≠ p.b j
  cu : ∀ i, p.c i ≠ p.u
  cx : ∀ i, p.c i ≠ p.ex
  bb : p.b false ≠ p.b true
  bu : ∀ i, p.b i ≠ p.u
  bx : ∀ i, p.b i ≠ p.ex
  ux : p.u ≠ p.ex

/-- One observation more: its bucket, the sum, the count. -/
def CSt.obs (s : CSt) (i r : Nat) : CSt := { s with sum := r, cnt := s.cnt + 1, bk := s.bk.set i (wd s.bk i + 1) }

/-- Nothing is counted. -/
structure CSt.Cold (s : CSt) : Prop where
  sum : s.sum = 0
  cnt : s.cnt = 0
  zero : s.zero = 0
  bk : s.bk = List.replicate s.bk.length 0

/-- The histogram lies in w in this state. -/
structure HIn (w : World) (p : Pl) (s : HSt) : Prop where
  apart : p.Apart
  hh : IsBlock w p.h (s.cells p)
  hc : ∀ i, IsBlock w (p.c i) ((s.c i).cells (p.b i))
  hb : ∀ i, IsBlock w (p.b i) (u64s (s.c i).bk)
  hu : IsBlock w p.u (f64s s.bounds ++ p.spare)
  hx : IsBlock w p.ex s.marks
  lb : ∀ i, (s.c i).bk.length = s.bounds.length
  lx : s.marks.length = s.bounds.length + 1
  cold : (s.c (!s.hot)).Cold
  bd : ∀ k, wd (s.c s.hot).bk k ≤ s.n
  cd : (s.c s.hot).cnt = s.n
  zd : (s.c s.hot).zero ≤ s.n

theorem HIn.mono {w w' : World} {p : Pl} {s : HSt} (H : HIn w p s) {S : Nat → Prop} (ho : Only S w w') (hS : ∀ k, k = p.u ∨ p.own k → ¬ S k) : HIn w' p s where
  apart := H.apart
  hh := ho.isBlock H.hh (hS _ (.inr (.inl rfl)))
  hc := fun i => ho.isBlock (H.hc i) (hS _ (.inr (by cases i; exact .inr (.inl rfl); exact .inr (.inr (.inl rfl)))))
  hb := fun i => ho.isBlock (H.hb i) (hS _ (.inr (by cases i; exact .inr (.inr (.inr (.inl rfl))); exact .inr (.inr (.inr (.inr (.inl rfl)))))))
  hu := ho.isBlock H.hu (hS _ (.inl rfl))
  hx := ho.isBlock H.hx (hS _ (.inr (.inr (.inr (.inr (.inr (.inr rfl)))))))
  lb := H.lb
  lx := H.lx
  cold := H.cold
  bd := H.bd
  cd := H.cd
  zd := H.zd
theorem HIn.kept {w w' : World} {p : Pl} {s : HSt} (H : HIn w p s) (ho : Only (fun _ => False) w w') : HIn w' p s := H.mono ho (fun _ _ h => h)

theorem getD_u64s {l : List Nat} {i : Nat} (h : i < l.length) : (u64s l)[i]? = some (.int .u64 (wd l i : Nat)) := by
  unfold u64s wd
  rw [List.getElem?_map, List.getElem?_eq_getElem h, List.getD_eq_getElem?_getD, List.getElem?_eq_getElem h]; rfl
theorem getD_f64s {l : List Nat} {x : List Value} {i : Nat} (h : i < l.length) : (f64s l ++ x)[i]? = some (.float .f64 (wd l i)) := by
  unfold f64s wd
  rw [List.getElem?_append_left (by simpa using h), List.getElem?_map, List.getElem?_eq_getElem h, List.getD_eq_getElem?_getD, List.getElem?_eq_getElem h]; rfl
theorem u64s_set (l : List Nat) (i k : Nat) : (u64s l).set i (.int .u64 (k : Int)) = u64s (l.set i k) := by
  unfold u64s; rw [List.map_set]

set_option maxHeartbeats 400000 in
theorem hcObserve_in (c b i v : Nat) (s : CSt) (w : World) (Hc : IsBlock w c (s.cells b)) (Hb : IsBlock w b (u64s s.bk)) (hcb : c ≠ b) (hi : i < s.bk.length)
    (hk : wd s.bk i + 1 < 2 ^ 64) (hm : s.cnt + 1 < 2 ^ 64) :
    Calls Tryz.prog 261 #[.pointer (some ⟨c, 0, none⟩), .float .f64 v, .int .i64 i, .bool false] w fun e w' => e = .returned (.tuple #[]) ∧
      ∃ r d, AddTo s.sum v r ∧ w' = (((w.setCell ⟨b, i, none⟩ (.int .u64 ((wd s.bk i : Nat) + 1 : Int))).setCell ⟨c, 0, none⟩ (.int .u64 (r : Nat))).setCell ⟨c, 1, none⟩ (.int .u64 ((s.cnt : Int) + 1))).drewN d := by
  have c6 := Hc.cell (i := 6) rfl
  have c0 := Hc.cell (i := 0) rfl
  have c1 := Hc.cell (i := 1) rfl
  have f0 := Hc.free 0
  have f1 := Hc.free 1
  have ck := Hb.cell (getD_u64s hi)
  have fk := Hb.free i
  have hi0 : (0 : Int) ≤ (i : Int) := by omega
  have hi1 : (i : Int) < (s.bk.length : Int) := by omega
  have h1 := incr_u64 ck fk hk
  have hbc : ¬ b = c := fun h => hcb h.symm
  clear hi hk Hc Hb
  go_enter Tryz.func261, Tryz.ntmps261
  go_wp2_with fail
  refine (atomicAddFloat_any ⟨c, 0, none⟩ s.sum v _ ?_ ?_).mono ?_
  · go_simp
  · go_simp
  rintro e w' ⟨r, d, hadd, rfl, rfl⟩
  have h2 := incr_u64 (a := ⟨c, 1, none⟩) (x := s.cnt) (w := ((w.setCell ⟨b, i, none⟩ (.int .u64 ((wd s.bk i : Nat) + 1 : Int))).drewN d).setCell ⟨c, 0, none⟩ (.int .u64 (r : Nat))) (by go_simp) (by go_simp) hm
  have HA := Lib.hid hadd
  clear hadd hm
  go_wp2_with fail
  go_end0
  exact ⟨rfl, r, d, HA.out, rfl⟩

set_option maxHeartbeats 400000 in
theorem hcObserve_out (c b i v : Nat) (s : CSt) (w : World) (Hc : IsBlock w c (s.cells b)) (hi : ¬ i < s.bk.length) (hm : s.cnt + 1 < 2 ^ 64) :
    Calls Tryz.prog 261 #[.pointer (some ⟨c, 0, none⟩), .float .f64 v, .int .i64 i, .bool false] w fun e w' => e = .returned (.tuple #[]) ∧
      ∃ r d, AddTo s.sum v r ∧ w' = ((w.setCell ⟨c, 0, none⟩ (.int .u64 (r : Nat))).setCell ⟨c, 1, none⟩ (.int .u64 ((s.cnt : Int) + 1))).drewN d := by
  have c6 := Hc.cell (i := 6) rfl
  have c0 := Hc.cell (i := 0) rfl
  have c1 := Hc.cell (i := 1) rfl
  have f0 := Hc.free 0
  have f1 := Hc.free 1
  have hi1 : ¬ (i : Int) < (s.bk.length : Int) := by omega
  clear hi Hc
  go_enter Tryz.func261, Tryz.ntmps261
  go_wp2_with fail
  refine (atomicAddFloat_any ⟨c, 0, none⟩ s.sum v _ ?_ ?_).mono ?_
  · go_simp
  · go_simp
  rintro e w' ⟨r, d, hadd, rfl, rfl⟩
  have h2 := incr_u64 (a := ⟨c, 1, none⟩) (x := s.cnt) (w := (w.drewN d).setCell ⟨c, 0, none⟩ (.int .u64 (r : Nat))) (by go_simp) (by go_simp) hm
  have HA := Lib.hid hadd
  clear hadd hm
  go_wp2_with fail
  go_end0
  exact ⟨rfl, r, d, HA.out, rfl⟩

/-- (*histogramCounts).observe without native buckets. -/
theorem hcObserve_plain (c b i v : Nat) (s : CSt) (w : World) (Hc : IsBlock w c (s.cells b)) (Hb : IsBlock w b (u64s s.bk)) (hcb : c ≠ b)
    (hk : wd s.bk i + 1 < 2 ^ 64) (hm : s.cnt + 1 < 2 ^ 64) :
    Calls Tryz.prog 261 #[.pointer (some ⟨c, 0, none⟩), .float .f64 v, .int .i64 i, .bool false] w fun e w' => e = .returned (.tuple #[]) ∧
      ∃ r, AddTo s.sum v r ∧ IsBlock w' c ((s.obs i r).cells b) ∧ IsBlock w' b (u64s (s.obs i r).bk) ∧ Only (fun k => k = c ∨ k = b) w w' := by
  by_cases hi : i < s.bk.length
  · refine (hcObserve_in c b i v s w Hc Hb hcb hi hk hm).mono ?_
    rintro e w' ⟨rfl, r, d, hadd, rfl⟩
    refine ⟨rfl, r, hadd, ?_, ?_, ?_⟩
    · have h := (((Hc.set_ne (a := ⟨b, i, none⟩) hcb (.int .u64 ((wd s.bk i : Nat) + 1 : Int))).set 0 (.int .u64 (r : Nat))).set 1 (.int .u64 ((s.cnt : Int) + 1))).drewN d
      have e : (s.obs i r).cells b = ((s.cells b).set 0 (.int .u64 (r : Nat))).set 1 (.int .u64 ((s.cnt : Int) + 1)) := by
        simp [CSt.cells, CSt.obs]
      rw [e]; exact h
    · have h := (((Hb.set i (.int .u64 ((wd s.bk i + 1 : Nat) : Int))).set_ne (a := ⟨c, 0, none⟩) (fun h => hcb h.symm) (.int .u64 (r : Nat))).set_ne (a := ⟨c, 1, none⟩) (fun h => hcb h.symm) (.int .u64 ((s.cnt : Int) + 1))).drewN d
      rw [u64s_set] at h
      exact h
    · exact ((((Only.refl _ w).setCell (.inl (.inr rfl)) _).setCell (.inl (.inl rfl)) _).setCell (.inl (.inl rfl)) _).drewN d
  · refine (hcObserve_out c b i v s w Hc hi hm).mono ?_
    rintro e w' ⟨rfl, r, d, hadd, rfl⟩
    refine ⟨rfl, r, hadd, ?_, ?_, ?_⟩
    · have h := ((Hc.set 0 (.int .u64 (r : Nat))).set 1 (.int .u64 ((s.cnt : Int) + 1))).drewN d
      have e : (s.obs i r).cells b = ((s.cells b).set 0 (.int .u64 (r : Nat))).set 1 (.int .u64 ((s.cnt : Int) + 1)) := by
        simp [CSt.cells, CSt.obs]
      rw [e]; exact h
    · have h := ((Hb.set_ne (a := ⟨c, 0, none⟩) (fun h => hcb h.symm) (.int .u64 (r : Nat))).set_ne (a := ⟨c, 1, none⟩) (fun h => hcb h.symm) (.int .u64 ((s.cnt : Int) + 1))).drewN d
      have e : (s.obs i r).bk = s.bk := List.set_eq_of_length_le (by omega)
      rw [e]; exact h
    · exact (((Only.refl _ w).setCell (.inl (.inl rfl)) _).setCell (.inl (.inl rfl)) _).drewN d

def HSt.obs (s : HSt) (i r : Nat) : HSt := { s with n := s.n + 1, c := fun j => if j = s.hot then (s.c s.hot).obs i r else s.c j }

theorem obs_wd (s : CSt) (i r k n : Nat) (h : ∀ k, wd s.bk k ≤ n) : wd (s.obs i r).bk k ≤ n + 1 := by
  have hk := h k
  have hi := h i
  show (s.bk.set i (wd s.bk i + 1)).getD k 0 ≤ n + 1
  unfold wd at hk hi ⊢
  simp only [List.getD_eq_getElem?_getD] at hk hi ⊢
  rw [List.getElem?_set]
  split
  · split
    · simp only [Option.getD_some]; omega
    · simp
  · omega

theorem HIn.obs {w w' : World} {p : Pl} {s : HSt} (H : HIn w p s) (i r : Nat)
    (hc : IsBlock w' (p.c s.hot) (((s.c s.hot).obs i r).cells (p.b s.hot))) (hb : IsBlock w' (p.b s.hot) (u64s ((s.c s.hot).obs i r).bk))
    (ho : Only (fun k => k = p.c s.hot ∨ k = p.b s.hot) (w.setCell ⟨p.h, 0, none⟩ (.int .u64 (idxVal (s.n + 1) s.hot))) w') : HIn w' p (s.obs i r) := by
  have A := H.apart
  have hlen : ∀ j, ((s.obs i r).c j).bk.length = (s.c j).bk.length := fun j => by
    show (if j = s.hot then (s.c s.hot).obs i r else s.c j).bk.length = _
    split
    · rename_i e; subst e; exact List.length_set ..
    · rfl
  have ch : (s.obs i r).c s.hot = (s.c s.hot).obs i r := if_pos rfl
  have cn : (s.obs i r).c (!s.hot) = s.c (!s.hot) := if_neg (by cases s.hot <;> simp)
  refine { apart := A, hh := ?_, hc := ?_, hb := ?_, hu := ?_, hx := ?_, lb := ?_, lx := H.lx, cold := ?_, bd := ?_, cd := ?_, zd := ?_ }
  · have h := (H.hh.set 0 (.int .u64 (idxVal (s.n + 1) s.hot)))
    exact ho.isBlock h (by rintro (h | h); exact A.hc _ h; exact A.hb _ h)
  · intro j
    by_cases hj : j = s.hot
    · subst hj; rw [ch]; exact hc
    · have : j = !s.hot := by cases j <;> cases hs : s.hot <;> simp_all
      subst this; rw [cn]
      refine ho.isBlock ((H.hc _).set_ne (a := ⟨p.h, 0, none⟩) (fun h => A.hc _ h.symm) _) ?_
      rintro (h | h)
      · have := A.cc; cases hs : s.hot <;> rw [hs] at h
        · exact this h.symm
        · exact this h
      · exact A.cb _ _ h
  · intro j
    by_cases hj : j = s.hot
    · subst hj; rw [ch]; exact hb
    · have : j = !s.hot := by cases j <;> cases hs : s.hot <;> simp_all
      subst this; rw [cn]
      refine ho.isBlock ((H.hb _).set_ne (a := ⟨p.h, 0, none⟩) (fun h => A.hb _ h.symm) _) ?_
      rintro (h | h)
      · exact A.cb _ _ h.symm
      · have := A.bb; cases hs : s.hot <;> rw [hs] at h
        · exact this h.symm
        · exact this h
  · refine ho.isBlock (H.hu.set_ne (a := ⟨p.h, 0, none⟩) (fun h => A.hu h.symm) _) ?_
    rintro (h | h)
    · exact A.cu _ h.symm
    · exact A.bu _ h.symm
  · refine ho.isBlock (H.hx.set_ne (a := ⟨p.h, 0, none⟩) (fun h => A.hx h.symm) _) ?_
    rintro (h | h)
    · exact A.cx _ h.symm
    · exact A.bx _ h.symm
  · intro j; rw [hlen]; exact H.lb j
  · show ((s.obs i r).c (!s.hot)).Cold
    rw [cn]; exact H.cold
  · intro k
    show wd ((s.obs i r).c s.hot).bk k ≤ s.n + 1
    rw [ch]; exact obs_wd _ _ _ _ _ H.bd
  · show ((s.obs i r).c s.hot).cnt = s.n + 1
    rw [ch]; show (s.c s.hot).cnt + 1 = _; rw [H.cd]
  · show ((s.obs i r).c s.hot).zero ≤ s.n + 1
    rw [ch]; show (s.c s.hot).zero ≤ _; have := H.zd; omega

set_option maxRecDepth 100000 in
set_option maxHeartbeats 400000 in
/-- (*histogram).observe where there are no native buckets. -/
theorem observe_plain (p : Pl) (s : HSt) (v i : Nat) (w : World) (H : HIn w p s) (hs : s.sch = -2147483648) (hn : s.n + 1 < 2 ^ 63) :
    Calls Tryz.prog 241 #[.pointer (some ⟨p.h, 0, none⟩), .float .f64 v, .int .i64 i] w fun e w' => e = .returned (.tuple #[]) ∧
      ∃ r, AddTo (s.c s.hot).sum v r ∧ HIn w' p (s.obs i r) ∧ Only p.own w w' := by
  have A := H.apart
  have c10 := H.hh.cell (i := 10) rfl
  have c0 := H.hh.cell (i := 0) rfl
  have f0 := H.hh.free 0
  rw [hs] at c10
  have h1 := idxVal_incr c0 f0 hn
  have HC : Hid (Calls Tryz.prog 261 #[.pointer (some ⟨p.c s.hot, 0, none⟩), .float .f64 v, .int .i64 i, .bool false] (w.setCell ⟨p.h, 0, none⟩ (.int .u64 (idxVal (s.n + 1) s.hot))) fun e w' => e = .returned (.tuple #[]) ∧
      ∃ r, AddTo (s.c s.hot).sum v r ∧ HIn w' p (s.obs i r) ∧ Only p.own w w') := by
    refine (hcObserve_plain (p.c s.hot) (p.b s.hot) i v (s.c s.hot) _ ((H.hc s.hot).set_ne (fun h => A.hc _ h.symm) _) ((H.hb s.hot).set_ne (fun h => A.hb _ h.symm) _) (A.cb _ _)
      (by have := H.bd i; omega) (by have := H.cd; omega)).mono ?_
    rintro e w' ⟨rfl, r, hadd, hc, hb, ho⟩
    refine ⟨rfl, r, hadd, H.obs i r hc hb ho, ((Only.refl _ w).setCell (p := ⟨p.h, 0, none⟩) (.inl (.inl rfl)) _).trans (ho.mono fun k _ hk => ?_)⟩
    rcases hk with rfl | rfl
    · cases s.hot
      · exact .inr (.inl rfl)
      · exact .inr (.inr (.inl rfl))
    · cases s.hot
      · exact .inr (.inr (.inr (.inl rfl)))
      · exact .inr (.inr (.inr (.inr (.inl rfl))))
  have c5 : w.cell? ⟨p.h, 5, none⟩ = some (.pointer (some ⟨p.c false, 0, none⟩)) := H.hh.cell rfl
  have c6 : w.cell? ⟨p.h, 6, none⟩ = some (.pointer (some ⟨p.c true, 0, none⟩)) := H.hh.cell rfl
  have h2 := idxVal_div0 (s.n + 1) hn
  have h3 := idxVal_div1 (s.n + 1) hn
  clear hn A H hs
  cases hh : s.hot
  · rw [hh] at h1 c0
    have HH := Lib.hid hh
    clear hh c6 h3
    go_enter Tryz.func241, Tryz.ntmps241
    go_wp2_with fail
    have HC' := HC.out
    rw [HH.out] at HC'
    refine HC'.mono ?_
    rintro e w' ⟨rfl, hq⟩
    have HQ := Lib.hid hq
    clear hq HC HC'
    go_wp2_with fail
    go_end0
    exact ⟨rfl, HQ.out⟩
  · rw [hh] at h1 c0
    have HH := Lib.hid hh
    clear hh c5 h2
    go_enter Tryz.func241, Tryz.ntmps241
    go_wp2_with fail
    have HC' := HC.out
    rw [HH.out] at HC'
    refine HC'.mono ?_
    rintro e w' ⟨rfl, hq⟩
    have HQ := Lib.hid hq
    clear hq HC HC'
    go_wp2_with fail
    go_end0
    exact ⟨rfl, HQ.out⟩

theorem HIn.cb {w : World} {p : Pl} {s : HSt} (H : HIn w p s) : ∀ i, i < s.bounds.length → w.cell? ⟨p.u, i, none⟩ = some (.float .f64 (wd s.bounds i)) :=
  fun _ hi => H.hu.cell (getD_f64s hi)

set_option maxHeartbeats 400000 in
/-- (*histogram).Observe where there are no native buckets. -/
theorem observeV_plain (p : Pl) (s : HSt) (v : Nat) (w : World) (H : HIn w p s) (hs : s.sch = -2147483648) (hn : s.n + 1 < 2 ^ 63) (hb : Incr s.bounds) (hl : s.bounds.length ≤ 2 ^ 62) :
    Calls Tryz.prog 237 #[.pointer (some ⟨p.h, 0, none⟩), .float .f64 v] w fun e w' => e = .returned (.tuple #[]) ∧
      ∃ r, AddTo (s.c s.hot).sum v r ∧ HIn w' p (s.obs (place s.bounds v) r) ∧ Only p.own w w' := by
  have h1 := findBucket_any p.h p.u p.ucap v s.bounds w hb hl (H.hh.cell rfl) H.cb
  have H1 := Lib.hid h1
  have H2 : Hid (∀ w', Only (fun _ => False) w w' → Calls Tryz.prog 241 #[.pointer (some ⟨p.h, 0, none⟩), .float .f64 v, .int .i64 (place s.bounds v)] w' fun e w' => e = .returned (.tuple #[]) ∧
      ∃ r, AddTo (s.c s.hot).sum v r ∧ HIn w' p (s.obs (place s.bounds v) r) ∧ Only p.own w w') := fun w' ho =>
    (observe_plain p s v _ w' (H.kept ho) hs hn).mono fun e w'' ⟨he, r, hr, hi, ho'⟩ => ⟨he, r, hr, hi, (ho.mono fun _ _ h => h.elim).trans ho'⟩
  clear h1 H hs hn hb hl
  go_enter Tryz.func237, Tryz.ntmps237
  go_wp2_with fail
  refine H1.out.mono ?_
  rintro e w' ⟨rfl, ho⟩
  go_wp2_with fail
  refine (H2.out w' ho).mono ?_
  rintro e w'' ⟨rfl, hq⟩
  have HQ := Lib.hid hq
  clear hq
  go_wp2_with fail
  go_end0
  exact ⟨rfl, HQ.out⟩
end Go.Proofs.YtebjclmbacmilaaGreatDoor
