/- The state of a histogram in memory, and the contract of (*histogram).observe where there are classic buckets alone. Conditions: fewer than 2^63 observations. The contract of addAndResetCounts: one struct of counts takes over what another one holds. Conditions: no count wraps. -/
import Derived.Test.YtebjclmbacmilaaGreatDoorxD
import Derived.BigRegion
namespace Go.Proofs.YtebjclmbacmilaaGreatDoor
open Go.RowKit

/-- The word that counts the calls of Observe and bears the hot index in its highest bit. -/
def idxVal (n : Nat) (hot : Bool) : Int := (n : Int) + (if hot then 9223372036854775808 else 0)
def hotIdx (hot : Bool) : Int := if hot then 1 else 0

theorem idxVal_incr {a : Addr} {n : Nat} {hot : Bool} {w : World} (hc : w.cell? a = some (.int .u64 (idxVal n hot))) (hz : w.frozen? a = false) (hn : n + 1 < 2 ^ 63) :
    (callFunc 246 #[.pointer (some a), .int .u64 1]).run Tryz.prog w = .ok (.value (.int .u64 (idxVal (n + 1) hot))) (w.setCell a (.int .u64 (idxVal (n + 1) hot))) := by
  have h := add_u64 (y := 1) hc hz
  have e : IntKind.u64.wrap (idxVal n hot + 1) = idxVal (n + 1) hot := by
    show ((idxVal n hot + 1) % 2 ^ 64) = _
    unfold idxVal
    cases hot <;> simp only [Bool.false_eq_true, if_false, if_true] <;> omega
  rw [e] at h
  exact h

theorem idxVal_div0 (n : Nat) (hn : n < 2 ^ 63) : idxVal n false / 9223372036854775808 = 0 := by
  unfold idxVal; simp only [Bool.false_eq_true, if_false]; omega
theorem idxVal_div1 (n : Nat) (hn : n < 2 ^ 63) : idxVal n true / 9223372036854775808 = 1 := by
  unfold idxVal; simp only [if_true]; omega

/-- Where a histogram lies: its struct, the two structs of counts, their buckets, the bounds, the exemplars; and what no call turns. -/
structure Pl where
  h : Nat
  c : Bool → Nat
  b : Bool → Nat
  u : Nat
  ex : Nat
  ucap : Nat
  spare : List Value
  self : Value
  desc : Value
  labels : Value
  now : Value
  after : Value

structure CSt where
  sum : Nat
  cnt : Nat
  zero : Nat
  zt : Nat
  sch : Int
  nb : Int
  bk : List Nat
  pos : Option Nat
  neg : Option Nat

structure HSt where
  n : Nat
  hot : Bool
  c : Bool → CSt
  bounds : List Nat
  marks : List Value
  sch : Int
  zt : Nat
  maxZero : Nat
  maxB : Int
  minReset : Int
  last : Int
  sched : Bool
  ttl : Int
  nex : Value

def u64s (l : List Nat) : List Value := l.map fun (k : Nat) => Value.int .u64 (k : Int)
def f64s (l : List Nat) : List Value := l.map fun (k : Nat) => Value.float .f64 k

def CSt.cells (s : CSt) (b : Nat) : List Value :=
  [.int .u64 s.sum, .int .u64 s.cnt, .int .u64 s.zero, .int .u64 s.zt, .int .i32 s.sch, .int .u32 s.nb, .slice (some ⟨b, 0, none⟩) s.bk.length s.bk.length, .map s.pos, .map s.neg]

def HSt.cells (s : HSt) (p : Pl) : List Value :=
  [.int .u64 (idxVal s.n s.hot), p.self, p.desc, .int .i32 0, .int .u32 0, .pointer (some ⟨p.c false, 0, none⟩), .pointer (some ⟨p.c true, 0, none⟩), .slice (some ⟨p.u, 0, none⟩) s.bounds.length p.ucap, p.labels,
    .slice (some ⟨p.ex, 0, none⟩) (s.bounds.length + 1) (s.bounds.length + 1), .int .i32 s.sch, .float .f64 s.zt, .float .f64 s.maxZero, .int .u32 s.maxB, .int .i64 s.minReset, .int .i64 s.last, .bool s.sched,
    .int .i32 0, .int .u32 0, .int .i64 s.ttl, s.nex, p.now, p.after]

/-- The blocks that calls of the histogram write. -/
def Pl.own (p : Pl) (k : Nat) : Prop := k = p.h ∨ k = p.c false ∨ k = p.c true ∨ k = p.b false ∨ k = p.b true ∨ k = p.ex

structure Pl.Apart (p : Pl) : Prop where
  hc : ∀ i, p.h ≠ p.c i
  hb : ∀ i, p.h ≠ p.b i
  hu : p.h ≠ p.u
  hx : p.h ≠ p.ex
  cc : p.c false ≠ p.c true
  cb : ∀ i j, p.c i ≠ p.b j
  cu : ∀ i, p.c i ≠ p.u
  cx : ∀ i, p.c i ≠ p.ex
  bb : p.b false ≠ p.b true
  bu : ∀ i, p.b i ≠ p.u
  bx : ∀ i, p.b i ≠ p.ex
  ux : p.u ≠ p.ex

/-- One observation more: its bucket, the sum, the count. -/
def CSt.obs (s : CSt) (i r : Nat) : CSt := { s with sum := r, cnt := s.cnt + 1, bk := s.bk.set i (wd s.bk i + 1) }

/-- Nothing is counted. -/
structure CSt.Cold (s : CSt) : Prop where
  sum : s.sum = 0
  cnt : s.cnt = 0
  zero : s.zero = 0
  bk : s.bk = List.replicate s.bk.length 0

/-- The histogram lies in w in this state. -/
structure HIn (w : World) (p : Pl) (s : HSt) : Prop where
  apart : p.Apart
  hh : IsBlock w p.h (s.cells p)
  hc : ∀ i, IsBlock w (p.c i) ((s.c i).cells (p.b i))
  hb : ∀ i, IsBlock w (p.b i) (u64s (s.c i).bk)
  hu : IsBlock w p.u (f64s s.bounds ++ p.spare)
  hx : IsBlock w p.ex s.marks
  lb : ∀ i, (s.c i).bk.length = s.bounds.length
  lx : s.marks.length = s.bounds.length + 1
  cold : (s.c (!s.hot)).Cold
  bd : ∀ k, wd (s.c s.hot).bk k ≤ s.n
  cd : (s.c s.hot).cnt = s.n
  zd : (s.c s.hot).zero ≤ s.n

theorem HIn.mono {w w' : World} {p : Pl} {s : HSt} (H : HIn w p s) {S : Nat → Prop} (ho : Only S w w') (hS : ∀ k, k = p.u ∨ p.own k → ¬ S k) : HIn w' p s where
  apart := H.apart
  hh := ho.isBlock H.hh (hS _ (.inr (.inl rfl)))
  hc := fun i => ho.isBlock (H.hc i) (hS _ (.inr (by cases i; exact .inr (.inl rfl); exact .inr (.inr (.inl rfl)))))
  hb := fun i => ho.isBlock (H.hb i) (hS _ (.inr (by cases i; exact .inr (.inr (.inr (.inl rfl))); exact .inr (.inr (.inr (.inr (.inl rfl)))))))
  hu := ho.isBlock H.hu (hS _ (.inl rfl))
  hx := ho.isBlock H.hx (hS _ (.inr (.inr (.inr (.inr (.inr (.inr rfl)))))))
  lb := H.lb
  lx := H.lx
  cold := H.cold
  bd := H.bd
  cd := H.cd
  zd := H.zd
theorem HIn.kept {w w' : World} {p : Pl} {s : HSt} (H : HIn w p s) (ho : Only (fun _ => False) w w') : HIn w' p s := H.mono ho (fun _ _ h => h)

theorem getD_u64s {l : List Nat} {i : Nat} (h : i < l.length) : (u64s l)[i]? = some (.int .u64 (wd l i : Nat)) := by
  unfold u64s wd
  rw [List.getElem?_map, List.getElem?_eq_getElem h, List.getD_eq_getElem?_getD, List.getElem?_eq_getElem h]; rfl
theorem getD_f64s {l : List Nat} {x : List Value} {i : Nat} (h : i < l.length) : (f64s l ++ x)[i]? = some (.float .f64 (wd l i)) := by
  unfold f64s wd
  rw [List.getElem?_append_left (by simpa using h), List.getElem?_map, List.getElem?_eq_getElem h, List.getD_eq_getElem?_getD, List.getElem?_eq_getElem h]; rfl
theorem u64s_set (l : List Nat) (i k : Nat) : (u64s l).set i (.int .u64 (k : Int)) = u64s (l.set i k) := by
  unfold u64s; rw [List.map_set]

set_option maxHeartbeats 400000 in
theorem hcObserve_in (c b i v : Nat) (s : CSt) (w : World) (Hc : IsBlock w c (s.cells b)) (Hb : IsBlock w b (u64s s.bk)) (hcb : c ≠ b) (hi : i < s.bk.length)
    (hk : wd s.bk i + 1 < 2 ^ 64) (hm : s.cnt + 1 < 2 ^ 64) :
    Calls Tryz.prog 261 #[.pointer (some ⟨c, 0, none⟩), .float .f64 v, .int .i64 i, .bool false] w fun e w' => e = .returned (.tuple #[]) ∧
      ∃ r d, AddTo s.sum v r ∧ w' = (((w.setCell ⟨b, i, none⟩ (.int .u64 ((wd s.bk i : Nat) + 1 : Int))).setCell ⟨c, 0, none⟩ (.int .u64 (r : Nat))).setCell ⟨c, 1, none⟩ (.int .u64 ((s.cnt : Int) + 1))).drewN d := by
  have c6 := Hc.cell (i := 6) rfl
  have c0 := Hc.cell (i := 0) rfl
  have c1 := Hc.cell (i := 1) rfl
  have f0 := Hc.free 0
  have f1 := Hc.free 1
  have ck := Hb.cell (getD_u64s hi)
  have fk := Hb.free i
  have hi0 : (0 : Int) ≤ (i : Int) := by omega
  have hi1 : (i : Int) < (s.bk.length : Int) := by omega
  have h1 := incr_u64 ck fk hk
  have hbc : ¬ b = c := fun h => hcb h.symm
  clear hi hk Hc Hb
  go_enter Tryz.func261, Tryz.ntmps261
  go_wp2_with fail
  refine (atomicAddFloat_any ⟨c, 0, none⟩ s.sum v _ ?_ ?_).mono ?_
  · go_simp
  · go_simp
  rintro e w' ⟨r, d, hadd, rfl, rfl⟩
  have h2 := incr_u64 (a := ⟨c, 1, none⟩) (x := s.cnt) (w := ((w.setCell ⟨b, i, none⟩ (.int .u64 ((wd s.bk i : Nat) + 1 : Int))).drewN d).setCell ⟨c, 0, none⟩ (.int .u64 (r : Nat))) (by go_simp) (by go_simp) hm
  have HA := Lib.hid hadd
  clear hadd hm
  go_wp2_with fail
  go_end0
  exact ⟨rfl, r, d, HA.out, rfl⟩

set_option maxHeartbeats 400000 in
theorem hcObserve_out (c b i v : Nat) (s : CSt) (w : World) (Hc : IsBlock w c (s.cells b)) (hi : ¬ i < s.bk.length) (hm : s.cnt + 1 < 2 ^ 64) :
    Calls Tryz.prog 261 #[.pointer (some ⟨c, 0, none⟩), .float .f64 v, .int .i64 i, .bool false] w fun e w' => e = .returned (.tuple #[]) ∧
      ∃ r d, AddTo s.sum v r ∧ w' = ((w.setCell ⟨c, 0, none⟩ (.int .u64 (r : Nat))).setCell ⟨c, 1, none⟩ (.int .u64 ((s.cnt : Int) + 1))).drewN d := by
  have c6 := Hc.cell (i := 6) rfl
  have c0 := Hc.cell (i := 0) rfl
  have c1 := Hc.cell (i := 1) rfl
  have f0 := Hc.free 0
  have f1 := Hc.free 1
  have hi1 : ¬ (i : Int) < (s.bk.length : Int) := by omega
  clear hi Hc
  go_enter Tryz.func261, Tryz.ntmps261
  go_wp2_with fail
  refine (atomicAddFloat_any ⟨c, 0, none⟩ s.sum v _ ?_ ?_).mono ?_
  · go_simp
  · go_simp
  rintro e w' ⟨r, d, hadd, rfl, rfl⟩
  have h2 := incr_u64 (a := ⟨c, 1, none⟩) (x := s.cnt) (w := (w.drewN d).setCell ⟨c, 0, none⟩ (.int .u64 (r : Nat))) (by go_simp) (by go_simp) hm
  have HA := Lib.hid hadd
  clear hadd hm
  go_wp2_with fail
  go_end0
  exact ⟨rfl, r, d, HA.out, rfl⟩

/-- (*histogramCounts).observe without native buckets. -/
theorem hcObserve_plain (c b i v : Nat) (s : CSt) (w : World) (Hc : IsBlock w c (s.cells b)) (Hb : IsBlock w b (u64s s.bk)) (hcb : c ≠ b)
    (hk : wd s.bk i + 1 < 2 ^ 64) (hm : s.cnt + 1 < 2 ^ 64) :
    Calls Tryz.prog 261 #[.pointer (some ⟨c, 0, none⟩), .float .f64 v, .int .i64 i, .bool false] w fun e w' => e = .returned (.tuple #[]) ∧
      ∃ r, AddTo s.sum v r ∧ IsBlock w' c ((s.obs i r).cells b) ∧ IsBlock w' b (u64s (s.obs i r).bk) ∧ Only (fun k => k = c ∨ k = b) w w' := by
  by_cases hi : i < s.bk.length
  · refine (hcObserve_in c b i v s w Hc Hb hcb hi hk hm).mono ?_
    rintro e w' ⟨rfl, r, d, hadd, rfl⟩
    refine ⟨rfl, r, hadd, ?_, ?_, ?_⟩
    · have h := (((Hc.set_ne (a := ⟨b, i, none⟩) hcb (.int .u64 ((wd s.bk i : Nat) + 1 : Int))).set 0 (.int .u64 (r : Nat))).set 1 (.int .u64 ((s.cnt : Int) + 1))).drewN d
      have e : (s.obs i r).cells b = ((s.cells b).set 0 (.int .u64 (r : Nat))).set 1 (.int .u64 ((s.cnt : Int) + 1)) := by
        simp [CSt.cells, CSt.obs]
      rw [e]; exact h
    · have h := (((Hb.set i (.int .u64 ((wd s.bk i + 1 : Nat) : Int))).set_ne (a := ⟨c, 0, none⟩) (fun h => hcb h.symm) (.int .u64 (r : Nat))).set_ne (a := ⟨c, 1, none⟩) (fun h => hcb h.symm) (.int .u64 ((s.cnt : Int) + 1))).drewN d
      rw [u64s_set] at h
      exact h
    · exact ((((Only.refl _ w).setCell (.inl (.inr rfl)) _).setCell (.inl (.inl rfl)) _).setCell (.inl (.inl rfl)) _).drewN d
  · refine (hcObserve_out c b i v s w Hc hi hm).mono ?_
    rintro e w' ⟨rfl, r, d, hadd, rfl⟩
    refine ⟨rfl, r, hadd, ?_, ?_, ?_⟩
    · have h := ((Hc.set 0 (.int .u64 (r : Nat))).set 1 (.int .u64 ((s.cnt : Int) + 1))).drewN d
      have e : (s.obs i r).cells b = ((s.cells b).set 0 (.int .u64 (r : Nat))).set 1 (.int .u64 ((s.cnt : Int) + 1)) := by
        simp [CSt.cells, CSt.obs]
      rw [e]; exact h
    · have h := ((Hb.set_ne (a := ⟨c, 0, none⟩) (fun h => hcb h.symm) (.int .u64 (r : Nat))).set_ne (a := ⟨c, 1, none⟩) (fun h => hcb h.symm) (.int .u64 ((s.cnt : Int) + 1))).drewN d
      have e : (s.obs i r).bk = s.bk := List.set_eq_of_length_le (by omega)
      rw [e]; exact h
    · exact (((Only.refl _ w).setCell (.inl (.inl rfl)) _).setCell (.inl (.inl rfl)) _).drewN d

def HSt.obs (s : HSt) (i r : Nat) : HSt := { s with n := s.n + 1, c := fun j => if j = s.hot then (s.c s.hot).obs i r else s.c j }

theorem obs_wd (s : CSt) (i r k n : Nat) (h : ∀ k, wd s.bk k ≤ n) : wd (s.obs i r).bk k ≤ n + 1 := by
  have hk := h k
  have hi := h i
  show (s.bk.set i (wd s.bk i + 1)).getD k 0 ≤ n + 1
  unfold wd at hk hi ⊢
  simp only [List.getD_eq_getElem?_getD] at hk hi ⊢
  rw [List.getElem?_set]
  split
  · split
    · simp only [Option.getD_some]; omega
    · simp
  · omega

theorem HIn.obs {w w' : World} {p : Pl} {s : HSt} (H : HIn w p s) (i r : Nat)
    (hc : IsBlock w' (p.c s.hot) (((s.c s.hot).obs i r).cells (p.b s.hot))) (hb : IsBlock w' (p.b s.hot) (u64s ((s.c s.hot).obs i r).bk))
    (ho : Only (fun k => k = p.c s.hot ∨ k = p.b s.hot) (w.setCell ⟨p.h, 0, none⟩ (.int .u64 (idxVal (s.n + 1) s.hot))) w') : HIn w' p (s.obs i r) := by
  have A := H.apart
  have hlen : ∀ j, ((s.obs i r).c j).bk.length = (s.c j).bk.length := fun j => by
    show (if j = s.hot then (s.c s.hot).obs i r else s.c j).bk.length = _
    split
    · rename_i e; subst e; exact List.length_set ..
    · rfl
  have ch : (s.obs i r).c s.hot = (s.c s.hot).obs i r := if_pos rfl
  have cn : (s.obs i r).c (!s.hot) = s.c (!s.hot) := if_neg (by cases s.hot <;> simp)
  refine { apart := A, hh := ?_, hc := ?_, hb := ?_, hu := ?_, hx := ?_, lb := ?_, lx := H.lx, cold := ?_, bd := ?_, cd := ?_, zd := ?_ }
  · have h := (H.hh.set 0 (.int .u64 (idxVal (s.n + 1) s.hot)))
    exact ho.isBlock h (by rintro (h | h); exact A.hc _ h; exact A.hb _ h)
  · intro j
    by_cases hj : j = s.hot
    · subst hj; rw [ch]; exact hc
    · have : j = !s.hot := by cases j <;> cases hs : s.hot <;> simp_all
      subst this; rw [cn]
      refine ho.isBlock ((H.hc _).set_ne (a := ⟨p.h, 0, none⟩) (fun h => A.hc _ h.symm) _) ?_
      rintro (h | h)
      · have := A.cc; cases hs : s.hot <;> rw [hs] at h
        · exact this h.symm
        · exact this h
      · exact A.cb _ _ h
  · intro j
    by_cases hj : j = s.hot
    · subst hj; rw [ch]; exact hb
    · have : j = !s.hot := by cases j <;> cases hs : s.hot <;> simp_all
      subst this; rw [cn]
      refine ho.isBlock ((H.hb _).set_ne (a := ⟨p.h, 0, none⟩) (fun h => A.hb _ h.symm) _) ?_
      rintro (h | h)
      · exact A.cb _ _ h.symm
      · have := A.bb; cases hs : s.hot <;> rw [hs] at h
        · exact this h.symm
        · exact this h
  · refine ho.isBlock (H.hu.set_ne (a := ⟨p.h, 0, none⟩) (fun h => A.hu h.symm) _) ?_
    rintro (h | h)
    · exact A.cu _ h.symm
    · exact A.bu _ h.symm
  · refine ho.isBlock (H.hx.set_ne (a := ⟨p.h, 0, none⟩) (fun h => A.hx h.symm) _) ?_
    rintro (h | h)
    · exact A.cx _ h.symm
    · exact A.bx _ h.symm
  · intro j; rw [hlen]; exact H.lb j
  · show ((s.obs i r).c (!s.hot)).Cold
    rw [cn]; exact H.cold
  · intro k
    show wd ((s.obs i r).c s.hot).bk k ≤ s.n + 1
    rw [ch]; exact obs_wd _ _ _ _ _ H.bd
  · show ((s.obs i r).c s.hot).cnt = s.n + 1
    rw [ch]; show (s.c s.hot).cnt + 1 = _; rw [H.cd]
  · show ((s.obs i r).c s.hot).zero ≤ s.n + 1
    rw [ch]; show (s.c s.hot).zero ≤ _; have := H.zd; omega

set_option maxRecDepth 100000 in
set_option maxHeartbeats 400000 in
/-- (*histogram).observe where there are no native buckets. -/
theorem observe_plain (p : Pl) (s : HSt) (v i : Nat) (w : World) (H : HIn w p s) (hs : s.sch = -2147483648) (hn : s.n + 1 < 2 ^ 63) :
    Calls Tryz.prog 241 #[.pointer (some ⟨p.h, 0, none⟩), .float .f64 v, .int .i64 i] w fun e w' => e = .returned (.tuple #[]) ∧
      ∃ r, AddTo (s.c s.hot).sum v r ∧ HIn w' p (s.obs i r) ∧ Only p.own w w' := by
  have A := H.apart
  have c10 := H.hh.cell (i := 10) rfl
  have c0 := H.hh.cell (i := 0) rfl
  have f0 := H.hh.free 0
  rw [hs] at c10
  have h1 := idxVal_incr c0 f0 hn
  have HC : Hid (Calls Tryz.prog 261 #[.pointer (some ⟨p.c s.hot, 0, none⟩), .float .f64 v, .int .i64 i, .bool false] (w.setCell ⟨p.h, 0, none⟩ (.int .u64 (idxVal (s.n + 1) s.hot))) fun e w' => e = .returned (.tuple #[]) ∧
      ∃ r, AddTo (s.c s.hot).sum v r ∧ HIn w' p (s.obs i r) ∧ Only p.own w w') := by
    refine (hcObserve_plain (p.c s.hot) (p.b s.hot) i v (s.c s.hot) _ ((H.hc s.hot).set_ne (fun h => A.hc _ h.symm) _) ((H.hb s.hot).set_ne (fun h => A.hb _ h.symm) _) (A.cb _ _)
      (by have := H.bd i; omega) (by have := H.cd; omega)).mono ?_
    rintro e w' ⟨rfl, r, hadd, hc, hb, ho⟩
    refine ⟨rfl, r, hadd, H.obs i r hc hb ho, ((Only.refl _ w).setCell (p := ⟨p.h, 0, none⟩) (.inl (.inl rfl)) _).trans (ho.mono fun k _ hk => ?_)⟩
    rcases hk with rfl | rfl
    · cases s.hot
      · exact .inr (.inl rfl)
      · exact .inr (.inr (.inl rfl))
    · cases s.hot
      · exact .inr (.inr (.inr (.inl rfl)))
      · exact .inr (.inr (.inr (.inr (.inl rfl))))
  have c5 : w.cell? ⟨p.h, 5, none⟩ = some (.pointer (some ⟨p.c false, 0, none⟩)) := H.hh.cell rfl
  have c6 : w.cell? ⟨p.h, 6, none⟩ = some (.pointer (some ⟨p.c true, 0, none⟩)) := H.hh.cell rfl
  have h2 := idxVal_div0 (s.n + 1) hn
  have h3 := idxVal_div1 (s.n + 1) hn
  clear hn A H hs
  cases hh : s.hot
  · rw [hh] at h1 c0
    have HH := Lib.hid hh
    clear hh c6 h3
    go_enter Tryz.func241, Tryz.ntmps241
    go_wp2_with fail
    have HC' := HC.out
    rw [HH.out] at HC'
    refine HC'.mono ?_
    rintro e w' ⟨rfl, hq⟩
    have HQ := Lib.hid hq
    clear hq HC HC'
    go_wp2_with fail
    go_end0
    exact ⟨rfl, HQ.out⟩
  · rw [hh] at h1 c0
    have HH := Lib.hid hh
    clear hh c5 h2
    go_enter Tryz.func241, Tryz.ntmps241
    go_wp2_with fail
    have HC' := HC.out
    rw [HH.out] at HC'
    refine HC'.mono ?_
    rintro e w' ⟨rfl, hq⟩
    have HQ := Lib.hid hq
    clear hq HC HC'
    go_wp2_with fail
    go_end0
    exact ⟨rfl, HQ.out⟩

theorem HIn.cb {w : World} {p : Pl} {s : HSt} (H : HIn w p s) : ∀ i, i < s.bounds.length → w.cell? ⟨p.u, i, none⟩ = some (.float .f64 (wd s.bounds i)) :=
  fun _ hi => H.hu.cell (getD_f64s hi)

set_option maxHeartbeats 400000 in
/-- (*histogram).Observe where there are no native buckets. -/
theorem observeV_plain (p : Pl) (s : HSt) (v : Nat) (w : World) (H : HIn w p s) (hs : s.sch = -2147483648) (hn : s.n + 1 < 2 ^ 63) (hb : Incr s.bounds) (hl : s.bounds.length ≤ 2 ^ 62) :
    Calls Tryz.prog 237 #[.pointer (some ⟨p.h, 0, none⟩), .float .f64 v] w fun e w' => e = .returned (.tuple #[]) ∧
      ∃ r, AddTo (s.c s.hot).sum v r ∧ HIn w' p (s.obs (place s.bounds v) r) ∧ Only p.own w w' := by
  have h1 := findBucket_any p.h p.u p.ucap v s.bounds w hb hl (H.hh.cell rfl) H.cb
  have H1 := Lib.hid h1
  have H2 : Hid (∀ w', Only (fun _ => False) w w' → Calls Tryz.prog 241 #[.pointer (some ⟨p.h, 0, none⟩), .float .f64 v, .int .i64 (place s.bounds v)] w' fun e w' => e = .returned (.tuple #[]) ∧
      ∃ r, AddTo (s.c s.hot).sum v r ∧ HIn w' p (s.obs (place s.bounds v) r) ∧ Only p.own w w') := fun w' ho =>
    (observe_plain p s v _ w' (H.kept ho) hs hn).mono fun e w'' ⟨he, r, hr, hi, ho'⟩ => ⟨he, r, hr, hi, (ho.mono fun _ _ h => h.elim).trans ho'⟩
  clear h1 H hs hn hb hl
  go_enter Tryz.func237, Tryz.ntmps237
  go_wp2_with fail
  refine H1.out.mono ?_
  rintro e w' ⟨rfl, ho⟩
  go_wp2_with fail
  refine (H2.out w' ho).mono ?_
  rintro e w'' ⟨rfl, hq⟩
  have HQ := Lib.hid hq
  clear hq
  go_wp2_with fail
  go_end0
  exact ⟨rfl, HQ.out⟩
end Go.Proofs.YtebjclmbacmilaaGreatDoor

namespace Go.Proofs.YtebjclmbacmilaaGreatDoor
open Go.RowKit

/-- What the counts take over from others, and what is left of these. -/
def CSt.take (a b : CSt) (r : Nat) : CSt := { a with sum := r, cnt := a.cnt + b.cnt, zero := a.zero + b.zero, bk := List.zipWith (· + ·) a.bk b.bk }
def CSt.left (b : CSt) : CSt := { b with sum := 0, cnt := 0, zero := 0, bk := List.replicate b.bk.length 0 }

/-- The buckets when k of them have been taken over. -/
def mrg (a b : List Nat) (k : Nat) : List Nat := List.zipWith (· + ·) (a.take k) (b.take k) ++ a.drop k
def zrd (b : List Nat) (k : Nat) : List Nat := List.replicate k 0 ++ b.drop k

theorem mrg_len (a b : List Nat) (k : Nat) (h : a.length = b.length) : (mrg a b k).length = a.length := by simp [mrg]; omega
theorem zrd_len (b : List Nat) (k : Nat) (h : k ≤ b.length) : (zrd b k).length = b.length := by simp [zrd]; omega
theorem mrg_at (a b : List Nat) (k : Nat) (hk : k < a.length) (h : a.length = b.length) : wd (mrg a b k) k = wd a k := by
  unfold wd mrg
  simp only [List.getD_eq_getElem?_getD]
  rw [List.getElem?_append_right (by simp; omega)]
  have : k - (List.zipWith (fun x1 x2 => x1 + x2) (a.take k) (b.take k)).length = 0 := by simp; omega
  rw [this, List.getElem?_drop, Nat.add_zero]
theorem zrd_at (b : List Nat) (k : Nat) : wd (zrd b k) k = wd b k := by
  unfold wd zrd
  simp only [List.getD_eq_getElem?_getD]
  rw [List.getElem?_append_right (by simp)]
  simp
theorem mrg_succ (a b : List Nat) (k : Nat) (hk : k < a.length) (h : a.length = b.length) : (mrg a b k).set k (wd a k + wd b k) = mrg a b (k + 1) := by
  have ea : a.drop k = wd a k :: a.drop (k + 1) := by
    rw [List.drop_eq_getElem_cons hk, getD_get]; rfl
  have ta : a.take (k + 1) = a.take k ++ [wd a k] := by rw [List.take_succ_eq_append_getElem hk, getD_get]; rfl
  have tb : b.take (k + 1) = b.take k ++ [wd b k] := by rw [List.take_succ_eq_append_getElem (by omega), getD_get]; rfl
  have hl : (List.zipWith (fun x1 x2 => x1 + x2) (a.take k) (b.take k)).length = k := by simp; omega
  unfold mrg
  rw [ea, ta, tb, List.zipWith_append (by simp; omega)]
  rw [List.set_append_right _ _ (by omega), hl, Nat.sub_self]
  simp
theorem zrd_succ (b : List Nat) (k : Nat) (hk : k < b.length) : (zrd b k).set k 0 = zrd b (k + 1) := by
  have eb : b.drop k = wd b k :: b.drop (k + 1) := by
    rw [List.drop_eq_getElem_cons hk, getD_get]; rfl
  unfold zrd
  rw [eb, List.set_append_right _ _ (by simp)]
  simp [List.replicate_succ', List.append_assoc]
theorem mrg_all (a b : List Nat) (h : a.length = b.length) : mrg a b a.length = List.zipWith (· + ·) a b := by
  unfold mrg; rw [List.take_of_length_le (Nat.le_refl _), List.take_of_length_le (by omega), List.drop_of_length_le (Nat.le_refl _), List.append_nil]
theorem zrd_all (b : List Nat) : zrd b b.length = List.replicate b.length 0 := by
  unfold zrd; rw [List.drop_of_length_le (Nat.le_refl _), List.append_nil]

/-- Between two rounds of the loop over the buckets. -/
structure ARel (w : World) (ca cb ba bb : Nat) (a b : CSt) (r k : Nat) (wr : World) : Prop where
  A : IsBlock wr ca (({ a with sum := r, cnt := a.cnt + b.cnt } : CSt).cells ba)
  B : IsBlock wr cb (({ b with cnt := 0, sum := 0 } : CSt).cells bb)
  C : IsBlock wr ba (u64s (mrg a.bk b.bk k))
  D : IsBlock wr bb (u64s (zrd b.bk k))
  O : Only (fun k => k = ca ∨ k = cb ∨ k = ba ∨ k = bb) w wr

theorem ARel.next {w : World} {ca cb ba bb : Nat} {a b : CSt} {r k : Nat} {wr : World} (R : ARel w ca cb ba bb a b r k wr) (h1 : ca ≠ ba) (h2 : ca ≠ bb) (h3 : cb ≠ ba) (h4 : cb ≠ bb) (h5 : ba ≠ bb)
    (hk : k < a.bk.length) (hl : a.bk.length = b.bk.length) :
    ARel w ca cb ba bb a b r (k + 1) ((wr.setCell ⟨ba, k, none⟩ (.int .u64 ((wd a.bk k : Nat) + (wd b.bk k : Nat) : Int))).setCell ⟨bb, k, none⟩ (.int .u64 0)).drew where
  A := ((R.A.set_ne (a := ⟨ba, k, none⟩) h1 _).set_ne (a := ⟨bb, k, none⟩) h2 _).drew
  B := ((R.B.set_ne (a := ⟨ba, k, none⟩) h3 _).set_ne (a := ⟨bb, k, none⟩) h4 _).drew
  C := by
    have h := ((R.C.set k (.int .u64 ((wd a.bk k + wd b.bk k : Nat) : Int))).set_ne (a := ⟨bb, k, none⟩) h5 (.int .u64 0)).drew
    rw [u64s_set, mrg_succ _ _ _ hk hl] at h
    exact h
  D := by
    have h := ((R.D.set_ne (a := ⟨ba, k, none⟩) (fun h => h5 h.symm) (.int .u64 ((wd a.bk k : Nat) + (wd b.bk k : Nat) : Int))).set k (.int .u64 ((0 : Nat) : Int))).drew
    rw [u64s_set, zrd_succ _ _ (by omega)] at h
    exact h
  O := ((R.O.setCell (p := ⟨ba, k, none⟩) (.inl (.inr (.inr (.inl rfl)))) _).setCell (p := ⟨bb, k, none⟩) (.inl (.inr (.inr (.inr rfl)))) _).drew

set_option maxRecDepth 100000 in
set_option maxHeartbeats 1600000 in
theorem addAndReset_any (ca cb ba bb : Nat) (a b : CSt) (w : World) (Ha : IsBlock w ca (a.cells ba)) (Hb : IsBlock w cb (b.cells bb)) (Ka : IsBlock w ba (u64s a.bk)) (Kb : IsBlock w bb (u64s b.bk))
    (hab : ca ≠ cb) (h1 : ca ≠ ba) (h2 : ca ≠ bb) (h3 : cb ≠ ba) (h4 : cb ≠ bb) (h5 : ba ≠ bb) (hl : a.bk.length = b.bk.length) (hlb : a.bk.length ≤ 4611686018427387904)
    (hc : a.cnt + b.cnt ≤ 4611686018427387904) (hz : a.zero + b.zero ≤ 4611686018427387904) (hbk : ∀ k, wd a.bk k + wd b.bk k ≤ 4611686018427387904) :
    Calls Tryz.prog 260 #[.pointer (some ⟨ca, 0, none⟩), .pointer (some ⟨cb, 0, none⟩)] w fun e w' => e = .returned (.tuple #[]) ∧ ∃ r, AddTo a.sum b.sum r ∧
      IsBlock w' ca ((a.take b r).cells ba) ∧ IsBlock w' cb (b.left.cells bb) ∧ IsBlock w' ba (u64s (a.take b r).bk) ∧ IsBlock w' bb (u64s b.left.bk) ∧ Only (fun k => k = ca ∨ k = cb ∨ k = ba ∨ k = bb) w w' := by
  have a1 := Ha.cell (i := 1) rfl
  have b1 := Hb.cell (i := 1) rfl
  have fa1 := Ha.free 1
  have fb1 := Hb.free 1
  have a0 := Ha.cell (i := 0) rfl
  have b0 := Hb.cell (i := 0) rfl
  have fa0 := Ha.free 0
  have fb0 := Hb.free 0
  have hba : ¬ cb = ca := fun h => hab h.symm
  have hc' : (a.cnt : Int) + (b.cnt : Int) ≤ 4611686018427387904 := by omega
  have p1 : (0 : Int) ≤ (a.cnt : Int) := by omega
  have p2 : (0 : Int) ≤ (b.cnt : Int) := by omega
  have HL := Lib.hid hl
  have HK := Lib.hid hbk
  have HA := Lib.hid Ha
  have HB := Lib.hid Hb
  have KA := Lib.hid Ka
  have KB := Lib.hid Kb
  have HZ := Lib.hid hz
  have HLB := Lib.hid hlb
  clear Ha Hb hc hl hbk Ka Kb hz hlb
  go_enter Tryz.func260, Tryz.ntmps260
  go_wp2_with fail
  go_region
  go_wp2_with fail
  refine (atomicAddFloat_any ⟨ca, 0, none⟩ a.sum b.sum _ ?_ ?_).mono ?_
  · go_simp
  · go_simp
  rintro e w1 ⟨r, d, hadd, rfl, hw1⟩
  have A1 : IsBlock w1 ca (({ a with sum := r, cnt := a.cnt + b.cnt } : CSt).cells ba) := by
    rw [hw1]
    exact ((((HA.out.set 1 (.int .u64 ((a.cnt : Int) + (b.cnt : Int)))).set_ne (a := ⟨cb, 1, none⟩) hab (.int .u64 0)).drew).drewN d).set 0 (.int .u64 (r : Nat))
  have B1 : IsBlock w1 cb (({ b with cnt := 0 } : CSt).cells bb) := by
    rw [hw1]
    exact ((((HB.out.set_ne (a := ⟨ca, 1, none⟩) hba (.int .u64 ((a.cnt : Int) + (b.cnt : Int)))).set 1 (.int .u64 0)).drew).drewN d).set_ne (a := ⟨ca, 0, none⟩) hba (.int .u64 (r : Nat))
  have C1 : IsBlock w1 ba (u64s a.bk) := by
    rw [hw1]
    exact ((((KA.out.set_ne (a := ⟨ca, 1, none⟩) (fun h => h1 h.symm) _).set_ne (a := ⟨cb, 1, none⟩) (fun h => h3 h.symm) _).drew).drewN d).set_ne (a := ⟨ca, 0, none⟩) (fun h => h1 h.symm) _
  have D1 : IsBlock w1 bb (u64s b.bk) := by
    rw [hw1]
    exact ((((KB.out.set_ne (a := ⟨ca, 1, none⟩) (fun h => h2 h.symm) _).set_ne (a := ⟨cb, 1, none⟩) (fun h => h4 h.symm) _).drew).drewN d).set_ne (a := ⟨ca, 0, none⟩) (fun h => h2 h.symm) _
  have O1 : Only (fun k => k = ca ∨ k = cb ∨ k = ba ∨ k = bb) w w1 := by
    rw [hw1]
    exact ((((((Only.refl _ w).setCell (p := ⟨ca, 1, none⟩) (.inl (.inl rfl)) _).setCell (p := ⟨cb, 1, none⟩) (.inl (.inr (.inl rfl))) _).drew).drewN d).setCell (p := ⟨ca, 0, none⟩) (.inl (.inl rfl)) _)
  clear hw1 a1 b1 fa1 fb1 a0 b0 fa0 fb0 hc' p1 p2
  have HAdd := Lib.hid hadd
  clear hadd
  have b0 := B1.cell (i := 0) rfl
  have fb0 := B1.free 0
  have a6 := A1.cell (i := 6) rfl
  have b6 := B1.cell (i := 6) rfl
  have R2 : Hid (ARel w ca cb ba bb a b r 0 (w1.setCell ⟨cb, 0, none⟩ (.int .u64 0))) := Lib.hid
    { A := A1.set_ne (a := ⟨cb, 0, none⟩) hab (.int .u64 0), B := B1.set 0 (.int .u64 0),
      C := C1.set_ne (a := ⟨cb, 0, none⟩) (fun h => h3 h.symm) (.int .u64 0), D := D1.set_ne (a := ⟨cb, 0, none⟩) (fun h => h4 h.symm) (.int .u64 0),
      O := O1.setCell (p := ⟨cb, 0, none⟩) (.inl (.inr (.inl rfl))) (.int .u64 0) }
  clear A1 B1 C1 D1 O1
  go_wp2_with fail
  clear a6 b6 b0 fb0
  generalize w1.setCell ⟨cb, 0, none⟩ (.int .u64 0) = w2 at *
  have hlb : (a.bk.length : Int) ≤ 4611686018427387904 := by have := HLB.out; omega
  have eN : Hid ((b.bk.length : Int) = (a.bk.length : Int)) := Lib.hid (by have := HL.out; omega)
  go_loopw [37] (fun i wr => ∃ k : Nat, k ≤ a.bk.length ∧ i = .int .i64 k ∧ ARel w ca cb ba bb a b r k wr) (fun i _ => a.bk.length - (intOf i).toNat)
  case atStart => exact ⟨0, Nat.zero_le _, rfl, R2.out⟩
  case round =>
    obtain ⟨k, hk, rfl, hR⟩ := hrel
    have HR := Lib.hid hR
    clear hR
    have a6 : wr.cell? ⟨ca, 6, none⟩ = some (.slice (some ⟨ba, 0, none⟩) a.bk.length a.bk.length) := HR.out.A.cell (i := 6) rfl
    have b6 : wr.cell? ⟨cb, 6, none⟩ = some (.slice (some ⟨bb, 0, none⟩) b.bk.length b.bk.length) := HR.out.B.cell (i := 6) rfl
    by_cases hkn : k < a.bk.length
    · have hk0 : (0 : Int) ≤ (k : Int) := by omega
      have hk1 : (k : Int) < (a.bk.length : Int) := by omega
      have hk2 : (k : Int) < (b.bk.length : Int) := by have := HL.out; omega
      have ck : wr.cell? ⟨ba, k, none⟩ = some (.int .u64 (wd a.bk k : Nat)) := by
        have h := HR.out.C.cell (getD_u64s (by rw [mrg_len _ _ _ HL.out]; exact hkn))
        rw [mrg_at _ _ _ hkn HL.out] at h; exact h
      have dk : wr.cell? ⟨bb, k, none⟩ = some (.int .u64 (wd b.bk k : Nat)) := by
        have h := HR.out.D.cell (i := k) (getD_u64s (by rw [zrd_len _ _ (by have := HL.out; omega)]; have := HL.out; omega))
        rw [zrd_at] at h; exact h
      have fk := HR.out.C.free k
      have gk := HR.out.D.free k
      have hab5 : ¬ bb = ba := fun h => h5 h.symm
      have q1 : ((wd a.bk k : Nat) : Int) + ((wd b.bk k : Nat) : Int) ≤ 4611686018427387904 := by have := HK.out k; omega
      have q2 : (0 : Int) ≤ ((wd a.bk k : Nat) : Int) := by omega
      have q3 : (0 : Int) ≤ ((wd b.bk k : Nat) : Int) := by omega
      have HX := Lib.hid (HR.out.next h1 h2 h3 h4 h5 hkn HL.out)
      have HKN := Lib.hid hkn
      clear hkn hk
      go_wp2_with fail
      go_region
      go_wp2_with fail
      go_roundw
      case rel => exact ⟨k + 1, HKN.out, by go_num, HX.out⟩
      case measure => have := HKN.out; simp [intOf]; omega
    · have hk1 : ¬ (k : Int) < (a.bk.length : Int) := by omega
      have hke : k = a.bk.length := by omega
      subst hke
      have a2 : wr.cell? ⟨ca, 2, none⟩ = some (.int .u64 a.zero) := HR.out.A.cell (i := 2) rfl
      have b2 : wr.cell? ⟨cb, 2, none⟩ = some (.int .u64 b.zero) := HR.out.B.cell (i := 2) rfl
      have fa := HR.out.A.free 2
      have fb := HR.out.B.free 2
      have q1 : (a.zero : Int) + (b.zero : Int) ≤ 4611686018427387904 := by have := HZ.out; omega
      have q2 : (0 : Int) ≤ (a.zero : Int) := by omega
      have q3 : (0 : Int) ≤ (b.zero : Int) := by omega
      clear hkn hk
      go_wp2_with fail
      go_region
      go_wp2_with fail
      go_end0
      refine ⟨rfl, r, HAdd.out, ?_, ?_, ?_, ?_, ?_⟩
      · have h := ((HR.out.A.set 2 (.int .u64 ((a.zero : Int) + (b.zero : Int)))).set_ne (a := ⟨cb, 2, none⟩) hab (.int .u64 0)).drew
        have e : (({ a with sum := r, cnt := a.cnt + b.cnt } : CSt).cells ba).set 2 (.int .u64 ((a.zero : Int) + (b.zero : Int))) = (a.take b r).cells ba := by
          have : (a.take b r).bk.length = a.bk.length := by simp [CSt.take, HL.out]
          unfold CSt.cells
          rw [this]
          simp [CSt.take]
        rw [e] at h; exact h
      · have h := ((HR.out.B.set_ne (a := ⟨ca, 2, none⟩) (fun h => hab h.symm) (.int .u64 ((a.zero : Int) + (b.zero : Int)))).set 2 (.int .u64 0)).drew
        have e : (({ b with cnt := 0, sum := 0 } : CSt).cells bb).set 2 (.int .u64 0) = b.left.cells bb := by
          simp [CSt.cells, CSt.left]
        rw [e] at h; exact h
      · have h := ((HR.out.C.set_ne (a := ⟨ca, 2, none⟩) (fun h => h1 h.symm) (.int .u64 ((a.zero : Int) + (b.zero : Int)))).set_ne (a := ⟨cb, 2, none⟩) (fun h => h3 h.symm) (.int .u64 0)).drew
        rw [mrg_all _ _ HL.out] at h; exact h
      · have h := ((HR.out.D.set_ne (a := ⟨ca, 2, none⟩) (fun h => h2 h.symm) (.int .u64 ((a.zero : Int) + (b.zero : Int)))).set_ne (a := ⟨cb, 2, none⟩) (fun h => h4 h.symm) (.int .u64 0)).drew
        rw [HL.out, zrd_all] at h; exact h
      · exact ((HR.out.O.setCell (p := ⟨ca, 2, none⟩) (.inl (.inl rfl)) _).setCell (p := ⟨cb, 2, none⟩) (.inl (.inr (.inl rfl))) _).drew
end Go.Proofs.YtebjclmbacmilaaGreatDoor
