import Derived.Test.YbulkwzcParts
namespace Go.Proofs.Ybulkwzc
open Go.RowKit

/-- What 'logged' leaves: the product's cells, the kept reviews' row. -/
structure Logged (pb bb : Nat) (code : Value) (lg : Option Addr) (addr L : Int) (ks : List (Int × Nat × Nat)) (base : Nat) (w' : World) (v' : Value) : Prop where
  own : w'.ownsRow base 65 2 v' ks.length (flat bb ks)
  c0 : w'.cell? ⟨pb, 0, none⟩ = some code
  c13 : w'.cell? ⟨pb, 13, none⟩ = some (.int .i32 L)
  c42 : w'.cell? ⟨pb, 42, none⟩ = some (.pointer lg)
  c43 : w'.cell? ⟨pb, 43, none⟩ = some (.int .i64 addr)
  c44 : w'.cell? ⟨pb, 44, none⟩ = some (.slice none 0 0)
  c45 : w'.cell? ⟨pb, 45, none⟩ = some v'
  c46 : w'.cell? ⟨pb, 46, none⟩ = some (.slice none 0 0)

set_option maxHeartbeats 400000 in
theorem logged_any (pb bb base0 g cap : Nat) (rs : List (Int × Nat × Nat)) (L : Int) (code v42 v43 v44 v46 : Value) (lg : Option Addr) (addr : Int) (w : World)
    (hv : w.ownsRow base0 65 2 (.slice (some ⟨g, 0, none⟩) rs.length cap) rs.length (flat bb rs))
    (h45 : w.cell? ⟨pb, 45, none⟩ = some (.slice (some ⟨g, 0, none⟩) rs.length cap)) (h13 : w.cell? ⟨pb, 13, none⟩ = some (.int .i32 L))
    (h0 : w.cell? ⟨pb, 0, none⟩ = some code) (h42 : w.cell? ⟨pb, 42, none⟩ = some v42) (h43 : w.cell? ⟨pb, 43, none⟩ = some v43) (h44 : w.cell? ⟨pb, 44, none⟩ = some v44) (h46 : w.cell? ⟨pb, 46, none⟩ = some v46)
    (hf : ∀ o, w.frozen? ⟨pb, o, none⟩ = false) (hlen : rs.length ≤ 1024) :
    Calls Yba.prog 6 #[.pointer (some ⟨pb, 0, none⟩), .pointer lg, .int .i64 addr] w fun e w' => ∃ v', e = .returned (.tuple #[]) ∧ Logged pb bb code lg addr L (keptOf L rs) w.heap.size w' v' ∧ Below pb w w' := by
  obtain ⟨i0, hi, hz0, hz1, hz2⟩ := info_parts info65
  have hgB : g < w.heap.size := (hv.lt g rfl).2
  have hpB : pb < w.heap.size := World.block_lt_of_cell? w _ h13
  go_enter Yba.func6, Yba.ntmps6
  go_wp2
  go_loopw [6, 14] (fun v i wr => ∃ k : Nat, k ≤ rs.length ∧ i = .int .i64 k ∧ wr.ownsRow w.heap.size 65 2 v (keptOf L (rs.take k)).length (flat bb (keptOf L (rs.take k))) ∧ Below w.heap.size w wr)
    (fun _ i _ => rs.length - (intOf i).toNat)
  case atStart => exact ⟨0, Nat.zero_le _, rfl, World.ownsRow_nil _ _ _ _, Below.refl _ _⟩
  case round =>
    obtain ⟨k, hk, rfl, hown, hnx⟩ := hrel
    have hpW : pb < wr.heap.size := by have := hnx.size; omega
    by_cases hlt : k < rs.length
    · have hc0 : wr.cell? ⟨g, k * 2, none⟩ = some (.int .i32 rs[k].1) := (hnx.cell (by exact hgB)).trans ((hv.cellAt (k * 2) (by omega)).trans (flat_even bb rs k hlt))
      have hc1 : wr.cell? ⟨g, k * 2 + 1, none⟩ = some (.slice (some ⟨bb, rs[k].2.1, none⟩) 1 rs[k].2.2) := (hnx.cell (by exact hgB)).trans ((hv.cellAt (k * 2 + 1) (by omega)).trans (flat_odd bb rs k hlt))
      have hL : wr.cell? ⟨pb, 13, none⟩ = some (.int .i32 L) := (hnx.cell (by exact hpB)).trans h13
      have hS := keptOf_succ L rs k hlt
      obtain ⟨d, x, c, hr⟩ : ∃ d x c, rs[k] = (d, x, c) := ⟨_, _, _, rfl⟩
      rw [hr] at hc0 hc1 hS
      simp only at hc0 hc1 hS
      have hle := keptOf_le L (rs.take k)
      have hll : (rs.take k).length ≤ k := List.length_take_le _ _
      clear h45 h0 h42 h43 h44 h46 hf
      by_cases he : d = L
      · subst he
        rw [if_pos rfl] at hS
        have HS : Hid _ := hS
        clear hS hr
        go_wp2_with fail
        go_quiet (fail)
        go_wp2_with (at_builtin; apply Hid.out)
        unfold Hid
        refine wpList_append_own _ rfl _ _ 60 rfl w.heap.size 65 i0 (.agg #[.int .i32 0, .slice none 0 0]) 2 32 Yba.underlying60 hi hz0 hz1 hz2 rfl (by decide) _ (keptOf d (rs.take k)).length (flat bb (keptOf d (rs.take k))) rfl ?o1 ⟨wr.heap.size + 1, 0, none⟩ 1 1 [.int .i32 d, .slice (some ⟨bb, x, none⟩) 1 c] rfl rfl ?c1 (two_oneCell _ _ _ _) ?c3 ?c4 ?c5 ?_
        case o1 => exact own_drewN ((hown.alloc _).alloc _) nq
        case c1 => exact cell_two_q _ _ _ _ nq _ (by simp)
        case c3 => unfold maxLen; omega
        case c4 => omega
        case c5 => have := hnx.size; simp; omega
        intro v' w1 hown' hgrow _
        have R : w1.ownsRow w.heap.size 65 2 v' (keptOf d (rs.take (k + 1))).length (flat bb (keptOf d (rs.take (k + 1)))) ∧ Below w.heap.size w w1 := by
          rw [HS.out, flat_append]
          refine ⟨by simpa [flat] using hown', ?_⟩
          refine Below.grown (below_drewN ((hnx.alloc hnx.size _).alloc (by have := hnx.size; simp; omega) _) _) hgrow (by have := hnx.size; simp; omega) ?_
          intro q hq; exact (hown.lt q hq).1
        clear hown' hgrow hown hc0 hc1 hL
        go_wp2
        go_roundw
        case rel => exact ⟨k + 1, by omega, by go_num, R.1, R.2⟩
        case measure => simp [intOf]; omega
      · rw [if_neg he] at hS
        have HS : Hid _ := hS
        have hne : (d == L) = false := by simpa using he
        clear hS hr he
        go_wp2_with fail
        go_quiet (fail)
        go_wp2
        go_roundw
        case rel => exact ⟨k + 1, by omega, by go_num, by rw [HS.out]; exact own_drewN (hown.alloc _) _, below_drewN (hnx.alloc hnx.size _) _⟩
        case measure => simp [intOf]; omega
    · have hkk : k = rs.length := by omega
      subst hkk
      rw [List.take_length] at hown
      have g0 := (hnx.cell (p := ⟨pb, 0, none⟩) hpB).trans h0
      have g13 := (hnx.cell (p := ⟨pb, 13, none⟩) hpB).trans h13
      have g42 := (hnx.cell (p := ⟨pb, 42, none⟩) hpB).trans h42
      have g43 := (hnx.cell (p := ⟨pb, 43, none⟩) hpB).trans h43
      have g44 := (hnx.cell (p := ⟨pb, 44, none⟩) hpB).trans h44
      have g45 := (hnx.cell (p := ⟨pb, 45, none⟩) hpB).trans h45
      have g46 := (hnx.cell (p := ⟨pb, 46, none⟩) hpB).trans h46
      have gf : ∀ o, wr.frozen? ⟨pb, o, none⟩ = false := fun o => (hnx.frozen (p := ⟨pb, o, none⟩) hpB).trans (hf o)
      obtain ⟨a, c, rfl⟩ := own_shape hown
      clear hf h0 h13 h42 h43 h44 h45 h46
      go_wp2
      go_end0
      refine ⟨.slice a (keptOf L rs).length c, rfl, ⟨?_, ?_, ?_, ?_, ?_, ?_, ?_, ?_⟩, ?_⟩
      · exact ownsRow_setCell_below (ownsRow_setCell_below (ownsRow_setCell_below (ownsRow_setCell_below (ownsRow_setCell_below hown hpB _) hpB _) hpB _) hpB _) hpB _
      · go_simp
      · go_simp
      · go_simp
      · go_simp
      · go_simp
      · go_simp
      · go_simp
      · exact (((((hnx.mono (Nat.le_of_lt hpB)).setCell (Nat.le_refl _) _).setCell (Nat.le_refl _) _).setCell (Nat.le_refl _) _).setCell (Nat.le_refl _) _).setCell (Nat.le_refl _) _

end Go.Proofs.Ybulkwzc
