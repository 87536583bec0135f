/- The contract of addAndResetCounts: one struct of counts takes over what another one holds. Conditions: no count wraps. -/
import Derived.Test.YtebjclmbacmilaaGreatDoorE
import Derived.BigRegion
namespace Go.Proofs.YtebjclmbacmilaaGreatDoor
open Go.RowKit

/-- What the counts take over from others, and what is left of these. -/
def CSt.take (a b : CSt) (r : Nat) : CSt := { a with sum := r, cnt := a.cnt + b.cnt, zero := a.zero + b.zero, bk := List.zipWith (· + ·) a.bk b.bk }
def CSt.left (b : CSt) : CSt := { b with sum := 0, cnt := 0, zero := 0, bk := List.replicate b.bk.length 0 }

/-- The buckets when k of them have been taken over. -/
def mrg (a b : List Nat) (k : Nat) : List Nat := List.zipWith (· + ·) (a.take k) (b.take k) ++ a.drop k
def zrd (b : List Nat) (k : Nat) : List Nat := List.replicate k 0 ++ b.drop k

theorem mrg_len (a b : List Nat) (k : Nat) (h : a.length = b.length) : (mrg a b k).length = a.length := by simp [mrg]; omega
theorem zrd_len (b : List Nat) (k : Nat) (h : k ≤ b.length) : (zrd b k).length = b.length := by simp [zrd]; omega
theorem mrg_at (a b : List Nat) (k : Nat) (hk : k < a.length) (h : a.length = b.length) : wd (mrg a b k) k = wd a k := by
  unfold wd mrg
  simp only [List.getD_eq_getElem?_getD]
  rw [List.getElem?_append_right (by simp; omega)]
  have : k - (List.zipWith (fun x1 x2 => x1 + x2) (a.take k) (b.take k)).length = 0 := by simp; omega
  rw [this, List.getElem?_drop, Nat.add_zero]
theorem zrd_at (b : List Nat) (k : Nat) : wd (zrd b k) k = wd b k := by
  unfold wd zrd
  simp only [List.getD_eq_getElem?_getD]
  rw [List.getElem?_append_right (by simp)]
  simp
theorem mrg_succ (a b : List Nat) (k : Nat) (hk : k < a.length) (h : a.length = b.length) : (mrg a b k).set k (wd a k + wd b k) = mrg a b (k + 1) := by
  have ea : a.drop k = wd a k :: a.drop (k + 1) := by
    rw [List.drop_eq_getElem_cons hk, getD_get]; rfl
  have ta : a.take (k + 1) = a.take k ++ [wd a k] := by rw [List.take_succ_eq_append_getElem hk, getD_get]; rfl
  have tb : b.take (k + 1) = b.take k ++ [wd b k] := by rw [List.take_succ_eq_append_getElem (by omega), getD_get]; rfl
  have hl : (List.zipWith (fun x1 x2 => x1 + x2) (a.take k) (b.take k)).length = k := by simp; omega
  unfold mrg
  rw [ea, ta, tb, List.zipWith_append (by simp; omega)]
  rw [List.set_append_right _ _ (by omega), hl, Nat.sub_self]
  simp
theorem zrd_succ (b : List Nat) (k : Nat) (hk : k < b.length) : (zrd b k).set k 0 = zrd b (k + 1) := by
  have eb : b.drop k = wd b k :: b.drop (k + 1) := by
    rw [List.drop_eq_getElem_cons hk, getD_get]; rfl
  unfold zrd
  rw [eb, List.set_append_right _ _ (by simp)]
  simp [List.replicate_succ', List.append_assoc]
theorem mrg_all (a b : List Nat) (h : a.length = b.length) : mrg a b a.length = List.zipWith (· + ·) a b := by
  unfold mrg; rw [List.take_of_length_le (Nat.le_refl _), List.take_of_length_le (by omega), List.drop_of_length_le (Nat.le_refl _), List.append_nil]
theorem zrd_all (b : List Nat) : zrd b b.length = List.replicate b.length 0 := by
  unfold zrd; rw [List.drop_of_length_le (Nat.le_refl _), List.append_nil]

/-- Between two rounds of the loop over the buckets. -/
structure ARel (w : World) (ca cb ba bb : Nat) (a b : CSt) (r k : Nat) (wr : World) : Prop where
  A : IsBlock wr ca (({ a with sum := r, cnt := a.cnt + b.cnt } : CSt).cells ba)
  B : IsBlock wr cb (({ b with cnt := 0, sum := 0 } : CSt).cells bb)
  C : IsBlock wr ba (u64s (mrg a.bk b.bk k))
  D : IsBlock wr bb (u64s (zrd b.bk k))
  O : Only (fun k => k = ca ∨ k = cb ∨ k = ba ∨ k = bb) w wr

theorem ARel.next {w : World} {ca cb ba bb : Nat} {a b : CSt} {r k : Nat} {wr : World} (R : ARel w ca cb ba bb a b r k wr) (h1 : ca ≠ ba) (h2 : ca ≠ bb) (h3 : cb ≠ ba) (h4 : cb ≠ bb) (h5 : ba ≠ bb)
    (hk : k < a.bk.length) (hl : a.bk.length = b.bk.length) :
    ARel w ca cb ba bb a b r (k + 1) ((wr.setCell ⟨ba, k, none⟩ (.int .u64 ((wd a.bk k : Nat) + (wd b.bk k : Nat) : Int))).setCell ⟨bb, k, none⟩ (.int .u64 0)).drew where
  A := ((R.A.set_ne (a := ⟨ba, k, none⟩) h1 _).set_ne (a := ⟨bb, k, none⟩) h2 _).drew
  B := ((R.B.set_ne (a := ⟨ba, k, none⟩) h3 _).set_ne (a := ⟨bb, k, none⟩) h4 _).drew
  C := by
    have h := ((R.C.set k (.int .u64 ((wd a.bk k + wd b.bk k : Nat) : Int))).set_ne (a := ⟨bb, k, none⟩) h5 (.int .u64 0)).drew
    rw [u64s_set, mrg_succ _ _ _ hk hl] at h
    exact h
  D := by
    have h := ((R.D.set_ne (a := ⟨ba, k, none⟩) (fun h => h5 h.symm) (.int .u64 ((wd a.bk k : Nat) + (wd b.bk k : Nat) : Int))).set k (.int .u64 ((0 : Nat) : Int))).drew
    rw [u64s_set, zrd_succ _ _ (by omega)] at h
    exact h
  O := ((R.O.setCell (p := ⟨ba, k, none⟩) (.inl (.inr (.inr (.inl rfl)))) _).setCell (p := ⟨bb, k, none⟩) (.inl (.inr (.inr (.inr rfl)))) _).drew

set_option maxRecDepth 100000 in
set_option maxHeartbeats 1600000 in
theorem addAndReset_any (ca cb ba bb : Nat) (a b : CSt) (w : World) (Ha : IsBlock w ca (a.cells ba)) (Hb : IsBlock w cb (b.cells bb)) (Ka : IsBlock w ba (u64s a.bk)) (Kb : IsBlock w bb (u64s b.bk))
    (hab : ca ≠ cb) (h1 : ca ≠ ba) (h2 : ca ≠ bb) (h3 : cb ≠ ba) (h4 : cb ≠ bb) (h5 : ba ≠ bb) (hl : a.bk.length = b.bk.length) (hlb : a.bk.length ≤ 4611686018427387904)
    (hc : a.cnt + b.cnt ≤ 4611686018427387904) (hz : a.zero + b.zero ≤ 4611686018427387904) (hbk : ∀ k, wd a.bk k + wd b.bk k ≤ 4611686018427387904) :
    Calls Tryz.prog 260 #[.pointer (some ⟨ca, 0, none⟩), .pointer (some ⟨cb, 0, none⟩)] w fun e w' => e = .returned (.tuple #[]) ∧ ∃ r, AddTo a.sum b.sum r ∧
      IsBlock w' ca ((a.take b r).cells ba) ∧ IsBlock w' cb (b.left.cells bb) ∧ IsBlock w' ba (u64s (a.take b r).bk) ∧ IsBlock w' bb (u64s b.left.bk) ∧ Only (fun k => k = ca ∨ k = cb ∨ k = ba ∨ k = bb) w w' := by
  have a1 := Ha.cell (i := 1) rfl
  have b1 := Hb.cell (i := 1) rfl
  have fa1 := Ha.free 1
  have fb1 := Hb.free 1
  have a0 := Ha.cell (i := 0) rfl
  have b0 := Hb.cell (i := 0) rfl
  have fa0 := Ha.free 0
  have fb0 := Hb.free 0
  have hba : ¬ cb = ca := fun h => hab h.symm
  have hc' : (a.cnt : Int) + (b.cnt : Int) ≤ 4611686018427387904 := by omega
  have p1 : (0 : Int) ≤ (a.cnt : Int) := by omega
  have p2 : (0 : Int) ≤ (b.cnt : Int) := by omega
  have HL := Lib.hid hl
  have HK := Lib.hid hbk
  have HA := Lib.hid Ha
  have HB := Lib.hid Hb
  have KA := Lib.hid Ka
  have KB := Lib.hid Kb
  have HZ := Lib.hid hz
  have HLB := Lib.hid hlb
  clear Ha Hb hc hl hbk Ka Kb hz hlb
  go_enter Tryz.func260, Tryz.ntmps260
  go_wp2_with fail
  go_region
  go_wp2_with fail
  refine (atomicAddFloat_any ⟨ca, 0, none⟩ a.sum b.sum _ ?_ ?_).mono ?_
  · go_simp
  · go_simp
  rintro e w1 ⟨r, d, hadd, rfl, hw1⟩
  have A1 : IsBlock w1 ca (({ a with sum := r, cnt := a.cnt + b.cnt } : CSt).cells ba) := by
    rw [hw1]
    exact ((((HA.out.set 1 (.int .u64 ((a.cnt : Int) + (b.cnt : Int)))).set_ne (a := ⟨cb, 1, none⟩) hab (.int .u64 0)).drew).drewN d).set 0 (.int .u64 (r : Nat))
  have B1 : IsBlock w1 cb (({ b with cnt := 0 } : CSt).cells bb) := by
    rw [hw1]
    exact ((((HB.out.set_ne (a := ⟨ca, 1, none⟩) hba (.int .u64 ((a.cnt : Int) + (b.cnt : Int)))).set 1 (.int .u64 0)).drew).drewN d).set_ne (a := ⟨ca, 0, none⟩) hba (.int .u64 (r : Nat))
  have C1 : IsBlock w1 ba (u64s a.bk) := by
    rw [hw1]
    exact ((((KA.out.set_ne (a := ⟨ca, 1, none⟩) (fun h => h1 h.symm) _).set_ne (a := ⟨cb, 1, none⟩) (fun h => h3 h.symm) _).drew).drewN d).set_ne (a := ⟨ca, 0, none⟩) (fun h => h1 h.symm) _
  have D1 : IsBlock w1 bb (u64s b.bk) := by
    rw [hw1]
    exact ((((KB.out.set_ne (a := ⟨ca, 1, none⟩) (fun h => h2 h.symm) _).set_ne (a := ⟨cb, 1, none⟩) (fun h => h4 h.symm) _).drew).drewN d).set_ne (a := ⟨ca, 0, none⟩) (fun h => h2 h.symm) _
  have O1 : Only (fun k => k = ca ∨ k = cb ∨ k = ba ∨ k = bb) w w1 := by
    rw [hw1]
    exact ((((((Only.refl _ w).setCell (p := ⟨ca, 1, none⟩) (.inl (.inl rfl)) _).setCell (p := ⟨cb, 1, none⟩) (.inl (.inr (.inl rfl))) _).drew).drewN d).setCell (p := ⟨ca, 0, none⟩) (.inl (.inl rfl)) _)
  clear hw1 a1 b1 fa1 fb1 a0 b0 fa0 fb0 hc' p1 p2
  have HAdd := Lib.hid hadd
  clear hadd
  have b0 := B1.cell (i := 0) rfl
  have fb0 := B1.free 0
  have a6 := A1.cell (i := 6) rfl
  have b6 := B1.cell (i := 6) rfl
  have R2 : Hid (ARel w ca cb ba bb a b r 0 (w1.setCell ⟨cb, 0, none⟩ (.int .u64 0))) := Lib.hid
    { A := A1.set_ne (a := ⟨cb, 0, none⟩) hab (.int .u64 0), B := B1.set 0 (.int .u64 0),
      C := C1.set_ne (a := ⟨cb, 0, none⟩) (fun h => h3 h.symm) (.int .u64 0), D := D1.set_ne (a := ⟨cb, 0, none⟩) (fun h => h4 h.symm) (.int .u64 0),
      O := O1.setCell (p := ⟨cb, 0, none⟩) (.inl (.inr (.inl rfl))) (.int .u64 0) }
  clear A1 B1 C1 D1 O1
  go_wp2_with fail
  clear a6 b6 b0 fb0
  generalize w1.setCell ⟨cb, 0, none⟩ (.int .u64 0) = w2 at *
  have hlb : (a.bk.length : Int) ≤ 4611686018427387904 := by have := HLB.out; omega
  have eN : Hid ((b.bk.length : Int) = (a.bk.length : Int)) := Lib.hid (by have := HL.out; omega)
  go_loopw [37] (fun i wr => ∃ k : Nat, k ≤ a.bk.length ∧ i = .int .i64 k ∧ ARel w ca cb ba bb a b r k wr) (fun i _ => a.bk.length - (intOf i).toNat)
  case atStart => exact ⟨0, Nat.zero_le _, rfl, R2.out⟩
  case round =>
    obtain ⟨k, hk, rfl, hR⟩ := hrel
    have HR := Lib.hid hR
    clear hR
    have a6 : wr.cell? ⟨ca, 6, none⟩ = some (.slice (some ⟨ba, 0, none⟩) a.bk.length a.bk.length) := HR.out.A.cell (i := 6) rfl
    have b6 : wr.cell? ⟨cb, 6, none⟩ = some (.slice (some ⟨bb, 0, none⟩) b.bk.length b.bk.length) := HR.out.B.cell (i := 6) rfl
    by_cases hkn : k < a.bk.length
    · have hk0 : (0 : Int) ≤ (k : Int) := by omega
      have hk1 : (k : Int) < (a.bk.length : Int) := by omega
      have hk2 : (k : Int) < (b.bk.length : Int) := by have := HL.out; omega
      have ck : wr.cell? ⟨ba, k, none⟩ = some (.int .u64 (wd a.bk k : Nat)) := by
        have h := HR.out.C.cell (getD_u64s (by rw [mrg_len _ _ _ HL.out]; exact hkn))
        rw [mrg_at _ _ _ hkn HL.out] at h; exact h
      have dk : wr.cell? ⟨bb, k, none⟩ = some (.int .u64 (wd b.bk k : Nat)) := by
        have h := HR.out.D.cell (i := k) (getD_u64s (by rw [zrd_len _ _ (by have := HL.out; omega)]; have := HL.out; omega))
        rw [zrd_at] at h; exact h
      have fk := HR.out.C.free k
      have gk := HR.out.D.free k
      have hab5 : ¬ bb = ba := fun h => h5 h.symm
      have q1 : ((wd a.bk k : Nat) : Int) + ((wd b.bk k : Nat) : Int) ≤ 4611686018427387904 := by have := HK.out k; omega
      have q2 : (0 : Int) ≤ ((wd a.bk k : Nat) : Int) := by omega
      have q3 : (0 : Int) ≤ ((wd b.bk k : Nat) : Int) := by omega
      have HX := Lib.hid (HR.out.next h1 h2 h3 h4 h5 hkn HL.out)
      have HKN := Lib.hid hkn
      clear hkn hk
      go_wp2_with fail
      go_region
      go_wp2_with fail
      go_roundw
      case rel => exact ⟨k + 1, HKN.out, by go_num, HX.out⟩
      case measure => have := HKN.out; simp [intOf]; omega
    · have hk1 : ¬ (k : Int) < (a.bk.length : Int) := by omega
      have hke : k = a.bk.length := by omega
      subst hke
      have a2 : wr.cell? ⟨ca, 2, none⟩ = some (.int .u64 a.zero) := HR.out.A.cell (i := 2) rfl
      have b2 : wr.cell? ⟨cb, 2, none⟩ = some (.int .u64 b.zero) := HR.out.B.cell (i := 2) rfl
      have fa := HR.out.A.free 2
      have fb := HR.out.B.free 2
      have q1 : (a.zero : Int) + (b.zero : Int) ≤ 4611686018427387904 := by have := HZ.out; omega
      have q2 : (0 : Int) ≤ (a.zero : Int) := by omega
      have q3 : (0 : Int) ≤ (b.zero : Int) := by omega
      clear hkn hk
      go_wp2_with fail
      go_region
      go_wp2_with fail
      go_end0
      refine ⟨rfl, r, HAdd.out, ?_, ?_, ?_, ?_, ?_⟩
      · have h := ((HR.out.A.set 2 (.int .u64 ((a.zero : Int) + (b.zero : Int)))).set_ne (a := ⟨cb, 2, none⟩) hab (.int .u64 0)).drew
        have e : (({ a with sum := r, cnt := a.cnt + b.cnt } : CSt).cells ba).set 2 (.int .u64 ((a.zero : Int) + (b.zero : Int))) = (a.take b r).cells ba := by
          have : (a.take b r).bk.length = a.bk.length := by simp [CSt.take, HL.out]
          unfold CSt.cells
          rw [this]
          simp [CSt.take]
        rw [e] at h; exact h
      · have h := ((HR.out.B.set_ne (a := ⟨ca, 2, none⟩) (fun h => hab h.symm) (.int .u64 ((a.zero : Int) + (b.zero : Int)))).set 2 (.int .u64 0)).drew
        have e : (({ b with cnt := 0, sum := 0 } : CSt).cells bb).set 2 (.int .u64 0) = b.left.cells bb := by
          simp [CSt.cells, CSt.left]
        rw [e] at h; exact h
      · have h := ((HR.out.C.set_ne (a := ⟨ca, 2, none⟩) (fun h => h1 h.symm) (.int .u64 ((a.zero : Int) + (b.zero : Int)))).set_ne (a := ⟨cb, 2, none⟩) (fun h => h3 h.symm) (.int .u64 0)).drew
        rw [mrg_all _ _ HL.out] at h; exact h
      · have h := ((HR.out.D.set_ne (a := ⟨ca, 2, none⟩) (fun h => h2 h.symm) (.int .u64 ((a.zero : Int) + (b.zero : Int)))).set_ne (a := ⟨cb, 2, none⟩) (fun h => h4 h.symm) (.int .u64 0)).drew
        rw [HL.out, zrd_all] at h; exact h
      · exact ((HR.out.O.setCell (p := ⟨ca, 2, none⟩) (.inl (.inl rfl)) _).setCell (p := ⟨cb, 2, none⟩) (.inl (.inr (.inl rfl))) _).drew
end Go.Proofs.YtebjclmbacmilaaGreatDoor
