import Derived.Test.YbulkwzcParts
namespace Go.Proofs.Ybulkwzc
open Go.RowKit

set_option maxHeartbeats 400000 in
theorem toLog_some (pb bb base0 g cap : Nat) (rs : List (Int × Nat × Nat)) (L : Int) (w : World)
    (hv : w.ownsRow base0 65 2 (.slice (some ⟨g, 0, none⟩) rs.length cap) rs.length (flat bb rs))
    (h45 : w.cell? ⟨pb, 45, none⟩ = some (.slice (some ⟨g, 0, none⟩) rs.length cap)) (h13 : w.cell? ⟨pb, 13, none⟩ = some (.int .i32 L)) (hlen : rs.length ≤ 1024) :
    Calls Yba.prog 7 #[.pointer (some ⟨pb, 0, none⟩)] w fun e w' => ∃ a c, e = .returned (.slice a (toLog L rs).length c) ∧ Below w.heap.size w w' := by
  obtain ⟨i0, hi, hz0, hz1, hz2⟩ := info_parts info65
  have hgB : g < w.heap.size := (hv.lt g rfl).2
  have hpB : pb < w.heap.size := World.block_lt_of_cell? w _ h13
  go_enter Yba.func7, Yba.ntmps7
  go_wp2
  go_loopw [3, 11] (fun v i wr => ∃ k : Nat, k ≤ rs.length ∧ i = .int .i64 k ∧ wr.ownsRow w.heap.size 65 2 v (toLog L (rs.take k)).length (flat bb (toLog L (rs.take k))) ∧ Below w.heap.size w wr)
    (fun _ i _ => rs.length - (intOf i).toNat)
  case atStart => exact ⟨0, Nat.zero_le _, rfl, World.ownsRow_nil _ _ _ _, Below.refl _ _⟩
  case round =>
    obtain ⟨k, hk, rfl, hown, hnx⟩ := hrel
    by_cases hlt : k < rs.length
    · have hc0 : wr.cell? ⟨g, k * 2, none⟩ = some (.int .i32 rs[k].1) := (hnx.cell (by exact hgB)).trans ((hv.cellAt (k * 2) (by omega)).trans (flat_even bb rs k hlt))
      have hc1 : wr.cell? ⟨g, k * 2 + 1, none⟩ = some (.slice (some ⟨bb, rs[k].2.1, none⟩) 1 rs[k].2.2) := (hnx.cell (by exact hgB)).trans ((hv.cellAt (k * 2 + 1) (by omega)).trans (flat_odd bb rs k hlt))
      have hL : wr.cell? ⟨pb, 13, none⟩ = some (.int .i32 L) := (hnx.cell (by exact hpB)).trans h13
      have hS := toLog_succ L rs k hlt
      have hpW : pb < wr.heap.size := by have := hnx.size; omega
      obtain ⟨d, x, c, hr⟩ : ∃ d x c, rs[k] = (d, x, c) := ⟨_, _, _, rfl⟩
      rw [hr] at hc0 hc1 hS
      simp only at hc0 hc1 hS
      have hle := toLog_le L (rs.take k)
      have hll : (rs.take k).length ≤ k := List.length_take_le _ _
      by_cases he : d = L
      · subst he
        rw [if_pos rfl] at hS
        have HS : Hid _ := hS
        clear hS hr
        go_wp2_with fail
        go_quiet (fail)
        go_wp2
        go_roundw
        case rel => exact ⟨k + 1, by omega, by go_num, by rw [HS.out]; exact own_drewN (hown.alloc _) _, below_drewN (hnx.alloc hnx.size _) _⟩
        case measure => simp [intOf]; omega
      · rw [if_neg he] at hS
        have HS : Hid _ := hS
        have hne : (d != L) = true := by simpa using he
        clear hS hr he
        go_wp2_with fail
        go_quiet (fail)
        go_wp2_with (at_builtin; apply Hid.out)
        unfold Hid
        refine wpList_append_own _ rfl _ _ 60 rfl w.heap.size 65 i0 (.agg #[.int .i32 0, .slice none 0 0]) 2 32 Yba.underlying60 hi hz0 hz1 hz2 rfl (by decide) _ (toLog L (rs.take k)).length (flat bb (toLog L (rs.take k))) rfl ?o1 ⟨wr.heap.size + 1, 0, none⟩ 1 1 [.int .i32 d, .slice (some ⟨bb, x, none⟩) 1 c] rfl rfl ?c1 (two_oneCell _ _ _ _) ?c3 ?c4 ?c5 ?_
        case o1 => exact own_drewN ((hown.alloc _).alloc _) nq
        case c1 => exact cell_two_q _ _ _ _ nq _ (by simp)
        case c3 => unfold maxLen; omega
        case c4 => omega
        case c5 => have := hnx.size; simp; omega
        intro v' w1 hown' hgrow _
        have R : w1.ownsRow w.heap.size 65 2 v' (toLog L (rs.take (k + 1))).length (flat bb (toLog L (rs.take (k + 1)))) ∧ Below w.heap.size w w1 := by
          rw [HS.out, flat_append]
          refine ⟨by simpa [flat] using hown', ?_⟩
          refine Below.grown (below_drewN ((hnx.alloc hnx.size _).alloc (by have := hnx.size; simp; omega) _) _) hgrow (by have := hnx.size; simp; omega) ?_
          intro q hq; exact (hown.lt q hq).1
        clear hown' hgrow hown hc0 hc1 hL
        go_wp2
        go_roundw
        case rel => exact ⟨k + 1, by omega, by go_num, R.1, R.2⟩
        case measure => simp [intOf]; omega
    · have hkk : k = rs.length := by omega
      subst hkk
      rw [List.take_length] at hown
      obtain ⟨a, c, rfl⟩ := own_shape hown
      clear hown
      go_wp2
      go_ret
      exact ⟨a, c, rfl, hnx⟩

set_option maxHeartbeats 400000 in
theorem toLog_nil (pb : Nat) (w : World) (h45 : w.cell? ⟨pb, 45, none⟩ = some (.slice none 0 0)) :
    Calls Yba.prog 7 #[.pointer (some ⟨pb, 0, none⟩)] w fun e w' => e = .returned (.slice none 0 0) ∧ Below w.heap.size w w' := by
  go_enter Yba.func7, Yba.ntmps7
  go_wp2
  refine wp_loop_rounds 1 ?_
  rw [rounds_succ]
  go_wp2
  go_ret
  exact ⟨rfl, Below.refl _ _⟩

/-- 'p.reviewsToLog()': as many reviews as are not of the last close; nothing that was there has turned. -/
theorem toLog_any (pb bb base0 : Nat) (v : Value) (rs : List (Int × Nat × Nat)) (L : Int) (w : World)
    (hv : w.ownsRow base0 65 2 v rs.length (flat bb rs))
    (h45 : w.cell? ⟨pb, 45, none⟩ = some v) (h13 : w.cell? ⟨pb, 13, none⟩ = some (.int .i32 L)) (hlen : rs.length ≤ 1024) :
    Calls Yba.prog 7 #[.pointer (some ⟨pb, 0, none⟩)] w fun e w' => ∃ a c, e = .returned (.slice a (toLog L rs).length c) ∧ Below w.heap.size w w' := by
  rcases hv.2 with ⟨rfl, h0⟩ | ⟨g, cap, cur, rfl, _⟩
  · have : rs = [] := List.eq_nil_of_length_eq_zero h0
    subst this
    exact (toLog_nil pb w h45).mono fun e w' h => ⟨none, 0, h.1, h.2⟩
  · exact toLog_some pb bb base0 g cap rs L w hv h45 h13 hlen

end Go.Proofs.Ybulkwzc
