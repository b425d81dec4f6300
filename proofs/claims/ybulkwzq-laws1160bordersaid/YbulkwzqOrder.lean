import Derived.Test.YbulkwzqLess
namespace Go.Proofs.Ybulkwzq
open Go.RowKit

set_option maxHeartbeats 400000 in
theorem order_any (da db sa sb : Int) (v : Bool) (w : World) (a0 : -9223372036854775808 ≤ da) (a1 : da ≤ 9223372036854775807) (b0 : -9223372036854775808 ≤ db) (b1 : db ≤ 9223372036854775807)
    (hv : lessB da sa db sb = v) (hk : (db < da ∧ v = true) ∨ (da < db ∧ v = false) ∨ (da = db ∧ sa < sb ∧ v = true) ∨ (da = db ∧ ¬ sa < sb ∧ v = false)) :
    Calls Yba.prog 3 #[.int .i64 da, .int .i64 db, .int .i64 sa, .int .i64 sb] w fun e w' => e = .returned (.bool true) ∧ Below w.heap.size w w' := by
  have HA := fun w => sus_any da sa w a0 a1
  have HB := fun w => sus_any db sb w b0 b1
  have HK : Hid _ := hk
  have HV : Hid _ := hv
  clear a0 a1 b0 b1 hk hv
  go_enter Yba.func3, Yba.ntmps3
  go_wp2_with fail
  refine (HA _).mono ?_
  rintro e w1 ⟨S1, C1, rfl, hC1, hCS1, hS1, hs1, hb1⟩
  go_wp2_with fail
  refine (HB _).mono ?_
  rintro e w2 ⟨S2, C2, rfl, hC2, hCS2, hS2, hs2, hb2⟩
  clear HA HB
  go_wp2_with fail
  have hsz1 : w.heap.size ≤ w1.heap.size := hb1.size
  have hsz2 : w1.heap.size ≤ w2.heap.size := hb2.size
  have hs12 : Sus S1 C1 da sa w2 := hs1.later hb2 hS1 (by omega)
  have hbw : Below w.heap.size w w2 := hb1.trans (hb2.mono hsz1)
  refine (less_at (w2.heap.size + 1) w2.heap.size 2 2 0 1 S1 C1 S2 C2 da sa db sb _ _ _ ?_ (by decide) (by decide) ?_ ?_ ?_ ?_ rfl rfl).mono ?_
  · go_simp
  · go_simp
  · go_simp
  · exact hs12.later (((Below.refl _ _).alloc (Nat.le_refl _) _).alloc (by simp) _) (by omega) (by omega)
  · exact hs2.later (((Below.refl _ _).alloc (Nat.le_refl _) _).alloc (by simp) _) hS2 (by omega)
  rintro e w3 ⟨rfl, hb3⟩
  have hb4 : Below w.heap.size w w3 := ((hbw.alloc (by omega) _).alloc (by simp; omega) _).trans (hb3.mono (by simp; omega))
  rw [HV.out]
  clear hb3 hs1 hs2 hb1 hb2 hs12 hbw HV
  rcases HK.out with ⟨h, rfl⟩ | ⟨h, rfl⟩ | ⟨rfl, h, rfl⟩ | ⟨rfl, h, rfl⟩
  · go_wp2
    go_ret
    exact ⟨rfl, hb4⟩
  · have hne : (da == db) = false := by simp; omega
    have hd : decide (db < da) = false := by simp; omega
    go_wp2
    go_ret
    exact ⟨rfl, hb4⟩
  · go_wp2
    go_ret
    exact ⟨rfl, hb4⟩
  · have hd : decide (sa < sb) = false := by simp; omega
    go_wp2
    go_ret
    exact ⟨rfl, hb4⟩

theorem order_all (da db sa sb : Int) (w : World) (a0 : -9223372036854775808 ≤ da) (a1 : da ≤ 9223372036854775807) (b0 : -9223372036854775808 ≤ db) (b1 : db ≤ 9223372036854775807) :
    Calls Yba.prog 3 #[.int .i64 da, .int .i64 db, .int .i64 sa, .int .i64 sb] w fun e w' => e = .returned (.bool true) ∧ Below w.heap.size w w' := by
  refine order_any da db sa sb (lessB da sa db sb) w a0 a1 b0 b1 rfl ?_
  by_cases h1 : db < da
  · exact .inl ⟨h1, lessB_gt h1⟩
  · by_cases h2 : da < db
    · exact .inr (.inl ⟨h2, lessB_lt h2⟩)
    · have h3 : da = db := by omega
      subst h3
      by_cases h4 : sa < sb
      · exact .inr (.inr (.inl ⟨rfl, h4, by rw [lessB_eq]; simpa using h4⟩))
      · exact .inr (.inr (.inr ⟨rfl, h4, by rw [lessB_eq]; simpa using h4⟩))

end Go.Proofs.Ybulkwzq
