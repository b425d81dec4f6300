import Derived.Test.YbulkwzqSus
import Derived.RegionTactic
import Derived.BigRegion
namespace Go.Proofs.Ybulkwzq
open Go.RowKit

set_option maxHeartbeats 1000000 in
theorem swap_ne (qb g n cap i j : Nat) (x y : Option Addr) (w : World)
    (hq : w.cell? ⟨qb, 0, none⟩ = some (.slice (some ⟨g, 0, none⟩) n cap)) (_hi : (i : Int) < (n : Int)) (_hj : (j : Int) < (n : Int)) (hij : i ≠ j) (hgq : qb ≠ g)
    (ci : w.cell? ⟨g, i, none⟩ = some (.pointer x)) (cj : w.cell? ⟨g, j, none⟩ = some (.pointer y)) (hf : ∀ o, w.frozen? ⟨g, o, none⟩ = false) :
    Calls Yba.prog 35 #[.pointer (some ⟨qb, 0, none⟩), .int .i64 i, .int .i64 j] w fun e w' => e = .returned (.tuple #[]) ∧ Same w' ((w.setCell ⟨g, i, none⟩ (.pointer y)).setCell ⟨g, j, none⟩ (.pointer x)) := by
  go_enter Yba.func35, Yba.ntmps35
  go_wp2_with fail
  go_region
  go_wp2
  go_end0
  exact ⟨rfl, rfl, rfl, rfl, rfl⟩

set_option maxHeartbeats 1000000 in
theorem swap_eq (qb g n cap i : Nat) (x : Option Addr) (w : World)
    (hq : w.cell? ⟨qb, 0, none⟩ = some (.slice (some ⟨g, 0, none⟩) n cap)) (_hi : (i : Int) < (n : Int)) (_hgq : qb ≠ g)
    (ci : w.cell? ⟨g, i, none⟩ = some (.pointer x)) (hf : ∀ o, w.frozen? ⟨g, o, none⟩ = false) :
    Calls Yba.prog 35 #[.pointer (some ⟨qb, 0, none⟩), .int .i64 i, .int .i64 i] w fun e w' => e = .returned (.tuple #[]) ∧ Same w' ((w.setCell ⟨g, i, none⟩ (.pointer x)).setCell ⟨g, i, none⟩ (.pointer x)) := by
  go_enter Yba.func35, Yba.ntmps35
  go_wp2_with fail
  go_region
  go_wp2
  go_end0
  exact ⟨rfl, rfl, rfl, rfl, rfl⟩

end Go.Proofs.Ybulkwzq
