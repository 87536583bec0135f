/- Contract of histLives: the histogram of two observations is as the law asks. Conditions: the separator variable's cells. -/
import Derived.Test.YtebjclmbacmilaaGreatDoorHr
import Derived.Laws.OwnMore
namespace Go.Proofs.YtebjclmbacmilaaGreatDoor
open Go.RowKit

def lvBs : List Nat := [4607182418800017408, 4611686018427387904]
def lvSteps : List SD := [⟨0, 4607182418800017408, none, 0, 0, 0⟩, ⟨0, 4613937818241073152, none, 0, 0, 0⟩, ⟨2, 0, none, 0, 0, 0⟩]
theorem lv_eff : effBs lvBs = lvBs := rfl
theorem lv_cut : cutBs lvBs = lvBs := by decide +kernel
theorem lv_asc : Asc lvBs := by
  intro i hi
  have : i = 0 := by simp [lvBs] at hi; omega
  subst this
  decide +kernel
theorem lv_incr : Incr lvBs := by
  refine ⟨fun b hb => ?_, fun i j hij hj => ?_⟩
  · simp only [lvBs, List.mem_cons, List.mem_nil_iff, or_false] at hb
    rcases hb with rfl | rfl <;> decide +kernel
  · have hj' : j < 2 := hj
    have h0 : i = 0 := by omega
    have h1 : j = 1 := by omega
    subst h0; subst h1
    decide +kernel
theorem lv_outs : outsOf lvSteps = [[4607182418800017408, 4613937818241073152]] := rfl
theorem lv_sum (s : Nat) (h : SumTo [4607182418800017408, 4613937818241073152] s) : s = 4616189618054758400 := by
  have hf : fsum [4607182418800017408, 4613937818241073152] = some 4616189618054758400 := by decide +kernel
  rcases h with h | ⟨h, _⟩
  · rw [hf] at h; exact (Option.some.inj h).symm
  · rw [hf] at h; cases h
theorem lv_tally : tally lvBs [4607182418800017408, 4613937818241073152] = [1, 0] := by decide +kernel

/-- What histLives reads of the results. -/
theorem lv_reads {w' : World} {base : Nat} {hs : List HRec} {vo : Value} (hr : w'.ownsRow base 92 13 vo hs.length (hRow hs)) (hb : ∀ h ∈ hs, w'.ownsRow base 96 6 h.v h.bks.length (bRow h.bks)) (ho : Outs lvBs 5 hs (outsOf lvSteps)) :
    ∃ (g cap gb capb : Nat), vo = .slice (some ⟨g, 0, none⟩) 1 cap ∧ w'.cell? ⟨g, 0, none⟩ = some (.int .u64 2) ∧ w'.cell? ⟨g, 1, none⟩ = some (.float .f64 4616189618054758400) ∧ w'.cell? ⟨g, 2, none⟩ = some (.slice (some ⟨gb, 0, none⟩) 2 capb) ∧ w'.cell? ⟨gb, 0, none⟩ = some (.int .u64 1) := by
  rw [lv_outs] at ho
  have hl : hs.length = 1 := ho.len
  obtain ⟨h, rfl⟩ := List.length_eq_one_iff.1 hl
  have hrec := ho.ok 0 h _ rfl rfl
  have hsum := lv_sum _ hrec.sum
  have hbk := hrec.bks
  rw [lv_tally] at hbk
  have hlen : h.bks.length = 2 := by have := congrArg List.length hbk; simpa [lvBs] using this
  obtain ⟨g, cap, hv, _, _⟩ := hr.form (by rw [hl]; decide)
  subst hv
  have hc := fun j u => hr.cells (g := g) rfl j u
  have hbr := hb h (List.mem_singleton.2 rfl)
  obtain ⟨gb, capb, hv2, _, _⟩ := hbr.form (by rw [hlen]; decide)
  rw [hv2] at hbr
  have hcb := fun j u => hbr.cells (g := gb) rfl j u
  match hbks : h.bks, hlen with
  | [x, y], _ =>
    rw [hbks] at hbk hcb
    simp only [lvBs, List.length_cons, List.length_nil] at hbk
    have h1 : x.cum = 1 := by
      have := congrArg (fun l => (l.getD 0 (0, 0)).1) hbk
      simpa [cumN] using this
    refine ⟨g, cap, gb, capb, by rw [hl], ?_, ?_, ?_, ?_⟩
    · have := hc 0 (.int .u64 h.cnt) rfl
      rw [hrec.cnt] at this
      exact this
    · have := hc 1 (.float .f64 h.sum) rfl
      rw [hsum] at this
      exact this
    · have := hc 2 h.v rfl
      rw [hv2, hbks] at this
      exact this
    · have := hcb 0 (.int .u64 x.cum) rfl
      rw [h1] at this
      exact this

set_option maxRecDepth 100000 in
set_option maxHeartbeats 1600000 in
theorem histLives_any (gs : Addr) (gc : Nat) (w : World) (hg : w.cell? ⟨2, 0, none⟩ = some (.slice (some gs) 1 gc)) (hgs : w.cell? gs = some (.int .u8 255)) :
    Calls Tryz.prog 16 #[] w fun e w' => e = .returned (.bool true) ∧ Only (fun _ => False) w w' := by
  have HG := Lib.hid hg
  have HGS := Lib.hid hgs
  clear hg hgs
  go_enter Tryz.func16, Tryz.ntmps16
  go_wp2_with fail
  refine (?_ : ∀ w2, w2 = (w.alloc (.cells (f64s lvBs).toArray 25)).alloc (.cells (sRow lvSteps).toArray 86) → Calls Tryz.prog 28 _ w2 _) _ rfl
  intro w2 hw2
  have hO : Only (fun _ => False) w w2 := by rw [hw2]; exact ((Only.refl _ w).alloc _).alloc _
  have hB : IsBlock w2 w.heap.size (f64s lvBs) := by rw [hw2]; exact (IsBlock.new w (f64s lvBs) 25).alloc _
  have hS : w2.ownsRow 0 86 4 (.slice (some ⟨w.heap.size + 1, 0, none⟩) lvSteps.length 3) lvSteps.length (sRow lvSteps) := by
    rw [hw2]
    have h := World.ownsRow_lit (base := 0) (e := 86) (size := 4) (w.alloc (.cells (f64s lvBs).toArray 25)) (sRow lvSteps).toArray 3 (Nat.zero_le _) (by decide) rfl
    rw [World.size_alloc] at h
    exact h
  clear hw2
  refine (histRun_plain (some ⟨w.heap.size, 0, none⟩) 2 2 0 0 0 0 0 0 0 5 (some ⟨w.heap.size + 1, 0, none⟩) 3 lvSteps 0 gs gc lvBs w2 (hO.cell HG.out id) (hO.cell HGS.out id) (by decide +kernel)
    (.inr ⟨_, _, rfl, rfl, cells_of hB⟩) (by decide) lv_asc (by rw [lv_eff, lv_cut]; exact lv_incr) hS (by decide) (by decide)).mono ?_
  rintro e w3 ⟨hs, vo, vt, rfl, hr, hb, ht, ho, hon⟩
  rw [lv_eff, lv_cut] at ho
  obtain ⟨g, cap, gb, capb, rfl, c0, c1, c2, c3⟩ := lv_reads hr hb ho
  have HON := Lib.hid (hO.trans hon)
  clear hr hb ht ho hon hO hB hS
  go_wp2_with fail
  go_ret
  exact ⟨rfl, HON.out⟩
end Go.Proofs.YtebjclmbacmilaaGreatDoor
