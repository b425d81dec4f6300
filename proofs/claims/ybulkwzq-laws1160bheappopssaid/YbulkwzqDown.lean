import Derived.Test.YbulkwzqQueue
namespace Go.Proofs.Ybulkwzq
open Go.RowKit HeapMath

theorem mLess (a : Addr) (w : World) : (method 210 22 (.pointer (some a)) "Less").run Yba.prog w = .ok (6, .pointer (some a)) w := by kernel_rfl
theorem mSwap (a : Addr) (w : World) : (method 210 22 (.pointer (some a)) "Swap").run Yba.prog w = .ok (35, .pointer (some a)) w := by kernel_rfl
theorem mLen (a : Addr) (w : World) : (method 210 22 (.pointer (some a)) "Len").run Yba.prog w = .ok (8, .pointer (some a)) w := by kernel_rfl
theorem mPop (a : Addr) (w : World) : (method 210 22 (.pointer (some a)) "Pop").run Yba.prog w = .ok (34, .pointer (some a)) w := by kernel_rfl

/-- Inside 'down': at place i, the heap's order is p'. -/
structure DR (base qb n : Nat) (S C : Nat → Nat) (t : Nat → Int) (p : List Nat) (v : Value) (w : World) (i0 m i : Nat) (p' : List Nat) (wr : World) : Prop where
  q : QS base qb n S C t p' v wr
  perm : p'.Perm p
  beyond : ∀ k, m ≤ k → p'.getD k 0 = p.getD k 0
  sift : Sift (lessOf t) p' i0 i m
  below : Keeps qb v.ownBlock w wr

theorem lessB_iff (a sa b sb : Int) : lessB a sa b sb = true ↔ (b < a ∨ (a = b ∧ sa < sb)) := by simp [lessB]

theorem ordOf (t : Nat → Int) : Ord (lessOf t) := by
  refine ⟨fun a b h => ?_, fun a b c h1 h2 => ?_⟩
  · unfold lessOf at *
    rw [lessB_iff] at h
    rw [← Bool.not_eq_true, lessB_iff]
    omega
  · unfold lessOf at *
    rw [← Bool.not_eq_true, lessB_iff] at *
    omega
theorem irrOf (t : Nat → Int) (a : Nat) : lessOf t a a = false := by
  unfold lessOf
  rw [← Bool.not_eq_true, lessB_iff]
  omega

section
variable {base qb n : Nat} {S C : Nat → Nat} {t : Nat → Int} {p : List Nat} {v : Value} {w : World} {i0 m i j : Nat} {p' : List Nat} {wr w1 : World}

theorem QS.baseLe (h : QS base qb n S C t p v w) : base ≤ w.heap.size := by have := lt_of_heap h.hq; have := h.bq; omega

theorem DR.less (hd : DR base qb n S C t p v w i0 m i p' wr) (hq : QS base qb n S C t p' v w1) (hb : Below wr.heap.size wr w1) : DR base qb n S C t p v w i0 m i p' w1 :=
  ⟨hq, hd.perm, hd.beyond, hd.sift, hd.below.trans (Keeps.of_below hb)⟩

theorem DR.swap (hd : DR base qb n S C t p v w i0 m i p' wr) (hm : m ≤ p.length) (hq : QS base qb n S C t (swp p' i j) v w1) (hb : Keeps qb v.ownBlock wr w1) (hj : Child i j) (hjm : j < m)
    (hmin : ∀ c, Child i c → c < m → lessOf t (p'.getD c 0) (p'.getD j 0) = false) (hs : lessOf t (p'.getD j 0) (p'.getD i 0) = true) : DR base qb n S C t p v w i0 m j (swp p' i j) w1 := by
  have hl : p'.length = p.length := hd.perm.length_eq
  have hij : i < j := by unfold Child at hj; omega
  exact ⟨hq, (swp_perm p' i j (by omega) (by omega)).trans hd.perm, fun k hk => (swp_beyond p' i j m k (by omega) hjm (by omega) hk).trans (hd.beyond k hk), sift_go (ordOf t) hd.sift hj hjm (by omega) hmin hs, hd.below.trans hb⟩
end

set_option maxHeartbeats 1000000 in
theorem down_any {base qb n : Nat} {S C : Nat → Nat} {t : Nat → Int} {p : List Nat} {v : Value} {w : World} (h : QS base qb n S C t p v w) (hlen : p.length ≤ 1024) (i0 m : Nat) (I M : Int) (hI : I = i0) (hM : M = m) (hm : m ≤ p.length) (hi0 : i0 ≤ 1024) (hs : Sift (lessOf t) p i0 i0 m) :
    Calls Yba.prog 12 #[.iface 22 (.pointer (some ⟨qb, 0, none⟩)), .int .i64 I, .int .i64 M] w fun e w' => ∃ b p', e = .returned (.bool b) ∧ QS base qb n S C t p' v w' ∧ p'.Perm p ∧ (∀ k, m ≤ k → p'.getD k 0 = p.getD k 0) ∧ Heap (lessOf t) p' i0 m ∧ Keeps qb v.ownBlock w w' := by
  subst hI hM
  have k1 := mLess
  have k2 := mSwap
  go_enter Yba.func12, Yba.ntmps12
  go_wp2_with fail
  go_loopw [7] (fun si wr => ∃ (i : Nat) (p' : List Nat), si = .int .i64 i ∧ i ≤ 1024 ∧ DR base qb n S C t p v w i0 m i p' wr) (fun si _ => m - (intOf si).toNat)
  case atStart => exact ⟨i0, p, rfl, hi0, ⟨h, .refl _, fun _ _ => rfl, hs, Keeps.refl _ _ _⟩⟩
  case round =>
    obtain ⟨i, p', rfl, hi, hd⟩ := hrel
    have hpl : p'.length ≤ p.length := Nat.le_of_eq hd.perm.length_eq
    have hpl2 : p.length ≤ p'.length := Nat.le_of_eq hd.perm.length_eq.symm
    clear h hs hi0
    by_cases c1 : 2 * i + 1 < m
    · have c1' : 2 * (i : Int) + 1 < (m : Int) := by omega
      by_cases c2 : 2 * i + 2 < m
      · have c2' : 2 * (i : Int) + 1 + 1 < (m : Int) := by omega
        by_cases hb1 : lessOf t (p'.getD (2 * i + 2) 0) (p'.getD (2 * i + 1) 0) = true
        · have hmin : Hid (∀ c, Child i c → c < m → lessOf t (p'.getD c 0) (p'.getD (2 * i + 2) 0) = false) := by
            intro c hc _
            rcases hc with rfl | rfl
            · exact (ordOf t).asym _ _ hb1
            · exact irrOf t _
          have Hb1 : Hid _ := hb1
          clear hb1
          go_wp2_with fail
          refine (less_q hd.q (2 * i + 2) (2 * i + 1) _ _ (by omega) (by omega) (by omega) (by omega)).mono ?_
          rintro e w1 ⟨rfl, hq1, hbl1⟩
          rw [Hb1.out]
          have hd1 := hd.less hq1 hbl1
          clear hd hq1 hbl1 Hb1
          by_cases hb2 : lessOf t (p'.getD (2 * i + 2) 0) (p'.getD i 0) = true
          · have Hb2 : Hid _ := hb2
            clear hb2
            go_wp2_with fail
            refine (less_q hd1.q (2 * i + 2) i _ _ (by omega) (by omega) (by omega) (by omega)).mono ?_
            rintro e w2 ⟨rfl, hq2, hbl2⟩
            rw [Hb2.out]
            have hd2 := hd1.less hq2 hbl2
            clear hd1 hq2 hbl2
            go_wp2_with fail
            refine (swap_q hd2.q i (2 * i + 2) _ _ (by omega) (by omega) (by omega) (by omega)).mono ?_
            rintro e w3 ⟨rfl, hq3, hbl3⟩
            have hd3 := hd2.swap hm hq3 hbl3 (.inr rfl) (by omega) hmin.out Hb2.out
            clear hd2 hq3 hbl3 hmin Hb2
            go_wp2
            go_roundw
            case rel => exact ⟨2 * i + 2, swp p' i (2 * i + 2), by go_num, by omega, hd3⟩
            case measure => simp [intOf]; omega
          · have Hb2 : Hid (lessOf t (p'.getD (2 * i + 2) 0) (p'.getD i 0) = false) := Bool.eq_false_iff.2 hb2
            clear hb2
            go_wp2_with fail
            refine (less_q hd1.q (2 * i + 2) i _ _ (by omega) (by omega) (by omega) (by omega)).mono ?_
            rintro e w2 ⟨rfl, hq2, hbl2⟩
            rw [Hb2.out]
            have hd2 := hd1.less hq2 hbl2
            clear hd1 hq2 hbl2
            go_wp2
            go_ret
            exact ⟨_, p', rfl, hd2.q, hd2.perm, hd2.beyond, sift_stop (ordOf t) hd2.sift hmin.out Hb2.out, hd2.below⟩
        · have hmin : Hid (∀ c, Child i c → c < m → lessOf t (p'.getD c 0) (p'.getD (2 * i + 1) 0) = false) := by
            intro c hc _
            rcases hc with rfl | rfl
            · exact irrOf t _
            · exact Bool.eq_false_iff.2 hb1
          have Hb1 : Hid (lessOf t (p'.getD (2 * i + 2) 0) (p'.getD (2 * i + 1) 0) = false) := Bool.eq_false_iff.2 hb1
          clear hb1
          go_wp2_with fail
          refine (less_q hd.q (2 * i + 2) (2 * i + 1) _ _ (by omega) (by omega) (by omega) (by omega)).mono ?_
          rintro e w1 ⟨rfl, hq1, hbl1⟩
          rw [Hb1.out]
          have hd1 := hd.less hq1 hbl1
          clear hd hq1 hbl1 Hb1
          by_cases hb2 : lessOf t (p'.getD (2 * i + 1) 0) (p'.getD i 0) = true
          · have Hb2 : Hid _ := hb2
            clear hb2
            go_wp2_with fail
            refine (less_q hd1.q (2 * i + 1) i _ _ (by omega) (by omega) (by omega) (by omega)).mono ?_
            rintro e w2 ⟨rfl, hq2, hbl2⟩
            rw [Hb2.out]
            have hd2 := hd1.less hq2 hbl2
            clear hd1 hq2 hbl2
            go_wp2_with fail
            refine (swap_q hd2.q i (2 * i + 1) _ _ (by omega) (by omega) (by omega) (by omega)).mono ?_
            rintro e w3 ⟨rfl, hq3, hbl3⟩
            have hd3 := hd2.swap hm hq3 hbl3 (.inl rfl) (by omega) hmin.out Hb2.out
            clear hd2 hq3 hbl3 hmin Hb2
            go_wp2
            go_roundw
            case rel => exact ⟨2 * i + 1, swp p' i (2 * i + 1), by go_num, by omega, hd3⟩
            case measure => simp [intOf]; omega
          · have Hb2 : Hid (lessOf t (p'.getD (2 * i + 1) 0) (p'.getD i 0) = false) := Bool.eq_false_iff.2 hb2
            clear hb2
            go_wp2_with fail
            refine (less_q hd1.q (2 * i + 1) i _ _ (by omega) (by omega) (by omega) (by omega)).mono ?_
            rintro e w2 ⟨rfl, hq2, hbl2⟩
            rw [Hb2.out]
            have hd2 := hd1.less hq2 hbl2
            clear hd1 hq2 hbl2
            go_wp2
            go_ret
            exact ⟨_, p', rfl, hd2.q, hd2.perm, hd2.beyond, sift_stop (ordOf t) hd2.sift hmin.out Hb2.out, hd2.below⟩
      · have hdd : decide (2 * (i : Int) + 1 + 1 < (m : Int)) = false := by simp; omega
        have hmin : Hid (∀ c, Child i c → c < m → lessOf t (p'.getD c 0) (p'.getD (2 * i + 1) 0) = false) := by
          intro c hc _
          rcases hc with rfl | rfl
          · exact irrOf t _
          · omega
        have hd1 := hd
        clear hd
        by_cases hb2 : lessOf t (p'.getD (2 * i + 1) 0) (p'.getD i 0) = true
        · have Hb2 : Hid _ := hb2
          clear hb2
          go_wp2_with fail
          refine (less_q hd1.q (2 * i + 1) i _ _ (by omega) (by omega) (by omega) (by omega)).mono ?_
          rintro e w2 ⟨rfl, hq2, hbl2⟩
          rw [Hb2.out]
          have hd2 := hd1.less hq2 hbl2
          clear hd1 hq2 hbl2
          go_wp2_with fail
          refine (swap_q hd2.q i (2 * i + 1) _ _ (by omega) (by omega) (by omega) (by omega)).mono ?_
          rintro e w3 ⟨rfl, hq3, hbl3⟩
          have hd3 := hd2.swap hm hq3 hbl3 (.inl rfl) (by omega) hmin.out Hb2.out
          clear hd2 hq3 hbl3 hmin Hb2
          go_wp2
          go_roundw
          case rel => exact ⟨2 * i + 1, swp p' i (2 * i + 1), by go_num, by omega, hd3⟩
          case measure => simp [intOf]; omega
        · have Hb2 : Hid (lessOf t (p'.getD (2 * i + 1) 0) (p'.getD i 0) = false) := Bool.eq_false_iff.2 hb2
          clear hb2
          go_wp2_with fail
          refine (less_q hd1.q (2 * i + 1) i _ _ (by omega) (by omega) (by omega) (by omega)).mono ?_
          rintro e w2 ⟨rfl, hq2, hbl2⟩
          rw [Hb2.out]
          have hd2 := hd1.less hq2 hbl2
          clear hd1 hq2 hbl2
          go_wp2
          go_ret
          exact ⟨_, p', rfl, hd2.q, hd2.perm, hd2.beyond, sift_stop (ordOf t) hd2.sift hmin.out Hb2.out, hd2.below⟩
    · have c1' : (m : Int) ≤ 2 * (i : Int) + 1 := by omega
      go_wp2
      go_ret
      exact ⟨_, p', rfl, hd.q, hd.perm, hd.beyond, sift_leaf hd.sift (by omega), hd.below⟩

end Go.Proofs.Ybulkwzq
