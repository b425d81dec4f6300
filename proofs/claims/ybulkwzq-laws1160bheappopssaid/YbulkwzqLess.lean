import Derived.Test.YbulkwzqSus
import Derived.Deep.RegionWith
import Derived.BigRegion
namespace Go.Proofs.Ybulkwzq
open Go.RowKit

/-- 'Less': the later first; among those as late the first taken in. -/
def lessB (da sa db sb : Int) : Bool := decide (db < da ∨ (da = db ∧ sa < sb))

theorem cmp_d (a b : Int) : (b < a ∧ cmpT (a / 1000000000) (a % 1000000000) (b / 1000000000) (b % 1000000000) = 1) ∨ (a < b ∧ cmpT (a / 1000000000) (a % 1000000000) (b / 1000000000) (b % 1000000000) = -1) ∨ (a = b ∧ cmpT (a / 1000000000) (a % 1000000000) (b / 1000000000) (b % 1000000000) = 0) := by
  unfold cmpT
  split
  · split
    · omega
    · split <;> omega
  · split <;> omega

theorem lessB_gt {a sa b sb : Int} (h : b < a) : lessB a sa b sb = true := by simp [lessB, h]
theorem lessB_lt {a sa b sb : Int} (h : a < b) : lessB a sa b sb = false := by simp [lessB]; omega
theorem lessB_eq (a sa sb : Int) : lessB a sa a sb = decide (sa < sb) := by simp [lessB]

set_option maxHeartbeats 1000000 in
theorem less_any (qb g n cap : Nat) (i j Si Ci Sj Cj : Nat) (di si dj sj : Int) (w : World)
    (hq : w.cell? ⟨qb, 0, none⟩ = some (.slice (some ⟨g, 0, none⟩) n cap)) (hi : i < n) (hj : j < n)
    (ci : w.cell? ⟨g, i, none⟩ = some (.pointer (some ⟨Si, 0, none⟩))) (cj : w.cell? ⟨g, j, none⟩ = some (.pointer (some ⟨Sj, 0, none⟩)))
    (hsi : Sus Si Ci di si w) (hsj : Sus Sj Cj dj sj w) :
    Calls Yba.prog 6 #[.pointer (some ⟨qb, 0, none⟩), .int .i64 i, .int .i64 j] w fun e w' => e = .returned (.bool (lessB di si dj sj)) ∧ Below w.heap.size w w' := by
  have i20 := hsi.cellS 20 (.pointer (some ⟨Ci, 0, none⟩)) rfl
  have i45 := hsi.cellS 45 (.int .i64 si) rfl
  have i28 := hsi.cellC 28 (.int .u64 (di % 1000000000)) rfl
  have i29 := hsi.cellC 29 (.int .i64 (di / 1000000000)) rfl
  have i30 := hsi.cellC 30 (.pointer none) rfl
  have j20 := hsj.cellS 20 (.pointer (some ⟨Cj, 0, none⟩)) rfl
  have j45 := hsj.cellS 45 (.int .i64 sj) rfl
  have j28 := hsj.cellC 28 (.int .u64 (dj % 1000000000)) rfl
  have j29 := hsj.cellC 29 (.int .i64 (dj / 1000000000)) rfl
  have j30 := hsj.cellC 30 (.pointer none) rfl
  have hiI : (i : Int) < (n : Int) := by omega
  have hjI : (j : Int) < (n : Int) := by omega
  have hcc := cmp_d di dj
  have HC := fun w => compare_any (di / 1000000000) (di % 1000000000) (dj / 1000000000) (dj % 1000000000) w (by omega) (by omega) (by omega) (by omega)
  generalize cmpT (di / 1000000000) (di % 1000000000) (dj / 1000000000) (dj % 1000000000) = c at hcc HC
  have Hcc : Hid _ := hcc
  clear hcc hsi hsj
  go_enter Yba.func6, Yba.ntmps6
  go_wp2_with fail
  go_quiet (fail)
  go_wp2_with fail
  have HJ : Hid (w.cell? ⟨Sj, 45, none⟩ = some (.int .i64 sj) ∧ w.cell? ⟨Si, 45, none⟩ = some (.int .i64 si)) := ⟨j45, i45⟩
  have hSi : Si < w.heap.size := World.block_lt_of_cell? w _ i45
  have hSj : Sj < w.heap.size := World.block_lt_of_cell? w _ j45
  clear hq ci cj hiI hjI i45 j45
  go_region_with (go_at_call 11; refine (HC _).mono ?_; rintro e w1 ⟨rfl, hb1⟩)
  all_goals
    have hb : Below w.heap.size w w1 := (below_drewN (Below.refl _ _) _).trans hb1
    have g1 := (hb.cell (p := ⟨Si, 45, none⟩) hSi).trans HJ.out.2
    have g2 := (hb.cell (p := ⟨Sj, 45, none⟩) hSj).trans HJ.out.1
    clear hb1 HC i20 i28 i29 i30 j20 j28 j29 j30 HJ
    rcases Hcc.out with ⟨h, rfl⟩ | ⟨h, rfl⟩ | ⟨rfl, rfl⟩
    · go_wp2
      go_ret
      exact ⟨by rw [lessB_gt h]; rfl, hb⟩
    · go_wp2
      go_ret
      exact ⟨by rw [lessB_lt h]; rfl, hb⟩
    · go_wp2_with fail
      go_quiet (fail)
      go_wp2
      go_ret
      exact ⟨by rw [lessB_eq]; rfl, below_drewN hb _⟩

/-- The same, the indices as the caller writes them. -/
theorem less_at (qb g n cap : Nat) (i j Si Ci Sj Cj : Nat) (di si dj sj I J : Int) (w : World)
    (hq : w.cell? ⟨qb, 0, none⟩ = some (.slice (some ⟨g, 0, none⟩) n cap)) (hi : i < n) (hj : j < n)
    (ci : w.cell? ⟨g, i, none⟩ = some (.pointer (some ⟨Si, 0, none⟩))) (cj : w.cell? ⟨g, j, none⟩ = some (.pointer (some ⟨Sj, 0, none⟩)))
    (hsi : Sus Si Ci di si w) (hsj : Sus Sj Cj dj sj w) (hI : I = i) (hJ : J = j) :
    Calls Yba.prog 6 #[.pointer (some ⟨qb, 0, none⟩), .int .i64 I, .int .i64 J] w fun e w' => e = .returned (.bool (lessB di si dj sj)) ∧ Below w.heap.size w w' := by
  subst hI hJ
  exact less_any qb g n cap i j Si Ci Sj Cj di si dj sj w hq hi hj ci cj hsi hsj

end Go.Proofs.Ybulkwzq
