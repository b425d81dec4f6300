import Derived.Test.YbulkxasSkip
namespace Go.Proofs.Ybulkxas
open Go.RowKit

theorem cutS_size (zs : List Int) (o n : Nat) (h : o + n ≤ zs.length) : (cutS zs o n).size = n := by
  unfold cutS
  rw [strOfNums_size]
  simp
  omega

set_option maxHeartbeats 400000 in
theorem prefix_big (ao : Option Addr) (len cap : Nat) (x n : Int) (w : World) (_h : (4096 : Int) < (len : Int)) :
    Calls Yba.prog 4 #[.slice ao len cap, .int .u16 x, .int .u16 n] w fun e w' => e = .returned (.bool true) ∧ Below w.heap.size w w' := by
  go_enter Yba.func4, Yba.ntmps4
  go_wp2
  go_ret
  exact ⟨rfl, Below.refl _ _⟩

set_option maxHeartbeats 400000 in
theorem prefix_small (ao : Option Addr) (b off len cap : Nat) (zs : List Int) (x n : Int) (w : World) (hao : 0 < len → ao = some ⟨b, off, none⟩) (hlc : len ≤ cap) (hlen : len ≤ 4096) (hz : len ≤ zs.length)
    (hc : ∀ j, j < len → w.cell? ⟨b, off + j, none⟩ = some (.int .u8 (zs.getD j 0))) (x0 : 0 ≤ x) (x1 : x ≤ 65535) (n0 : 0 ≤ n) (n1 : n ≤ 65535) :
    Calls Yba.prog 4 #[.slice ao len cap, .int .u16 x, .int .u16 n] w fun e w' => e = .returned (.bool true) ∧ Below w.heap.size w w' := by
  have hd : decide ((4096 : Int) < (len : Int)) = false := by simp; omega
  have HCL := clamp_any ao len cap x w hlen x0 x1
  go_enter Yba.func4, Yba.ntmps4
  go_wp2_with fail
  refine HCL.mono ?_
  rintro e w1 ⟨o, hol, rfl, hw1⟩
  subst hw1
  clear HCL
  obtain ⟨k, hk⟩ : ∃ k : Nat, n % ((len : Int) - (o : Int) + 1) = (k : Int) := ⟨(n % ((len : Int) - (o : Int) + 1)).toNat, by rw [Int.toNat_of_nonneg (Int.emod_nonneg _ (by omega))]⟩
  have hkl : o + k ≤ len := by have := Int.emod_lt_of_pos n (show (0 : Int) < (len : Int) - (o : Int) + 1 by omega); omega
  by_cases hk0 : k = 0
  · subst hk0
    have kc := conv_zero
    clear hao hc
    by_cases hco : cap = o
    · subst hco
      go_wp2_with fail
      refine (skip_zero w1.heap.size cap len cap ao _ ?_ ?_ ?_ hol hlc hlen).mono ?_
      · go_simp
      · go_simp
      · go_simp
      rintro e w2 ⟨rfl, hsm⟩
      have c1 : w2.cell? ⟨w1.heap.size, 1, none⟩ = some (.int .i64 cap) := by
        rw [hsm.cell]
        go_simp
      have hb : Below w1.heap.size w1 w2 := hsm.below (((Below.refl _ _).alloc (Nat.le_refl _) _).setCell (Nat.le_refl _) _)
      clear hsm
      go_wp2
      go_ret
      exact ⟨rfl, hb⟩
    · go_wp2_with fail
      refine (skip_zero w1.heap.size o len cap ao _ ?_ ?_ ?_ hol hlc hlen).mono ?_
      · go_simp
      · go_simp
      · go_simp
      rintro e w2 ⟨rfl, hsm⟩
      have c1 : w2.cell? ⟨w1.heap.size, 1, none⟩ = some (.int .i64 o) := by
        rw [hsm.cell]
        go_simp
      have hb : Below w1.heap.size w1 w2 := hsm.below (((Below.refl _ _).alloc (Nat.le_refl _) _).setCell (Nat.le_refl _) _)
      clear hsm
      go_wp2
      go_ret
      exact ⟨rfl, hb⟩
  · obtain rfl := hao (by omega)
    have kc := conv_cut b off len cap o k zs w1 hkl hz hc
    have hne : ¬ cap = o := by omega
    have e1 : ((o : Int) + (k : Int)).toNat - o = k := by omega
    have hcapI : (o : Int) + (k : Int) ≤ (cap : Int) := by omega
    have hss := cutS_size zs o k (by omega)
    obtain ⟨s, hs⟩ : ∃ s, s = cutS zs o k := ⟨_, rfl⟩
    rw [← hs] at kc hss
    have HS : Hid (s = cutS zs o k) := hs
    have Hc : Hid _ := hc
    have HSS : Hid (s.size = k) := hss
    clear hs hao hc hss
    go_wp2_with fail
    have hw : Below w1.heap.size w1 (w1.alloc (.cells #[.slice (some ⟨b, off, none⟩) len cap, .int .i64 o, .slice none 0 0] 27)) := (Below.refl _ _).alloc (Nat.le_refl _) _
    refine (skip_yes w1.heap.size o b off len cap zs s _ ?_ ?_ ?_ hlc hlen hz ?_ ?_ ?_ ?_).mono ?_
    · go_simp
    · go_simp
    · go_simp
    · intro j hj
      exact (hw.cell (p := ⟨b, off + j, none⟩) (World.block_lt_of_cell? w1 _ (Hc.out j hj))).trans (Hc.out j hj)
    · rw [HSS.out]; omega
    · rw [HSS.out]; exact hkl
    · rw [HSS.out, ← HS.out]; simp
    rintro e w2 ⟨rfl, hsm⟩
    have c1 : w2.cell? ⟨w1.heap.size, 1, none⟩ = some (.int .i64 ((o : Int) + (k : Int))) := by
      rw [hsm.cell, HSS.out]
      go_simp
    have hb : Below w1.heap.size w1 w2 := hsm.below (hw.setCell (Nat.le_refl _) _)
    clear hsm hw kc Hc
    go_wp2
    go_ret
    exact ⟨rfl, hb⟩

end Go.Proofs.Ybulkxas
