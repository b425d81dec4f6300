import Derived.Test.YbulkwzqRows
import Derived.WalkKit
import Derived.WalkSpells
import Derived.WalkLawsBesides
import Derived.Deep.QuietTactic
import Derived.BigQuiet
namespace Go.Proofs.Ybulkwzq
open Go.RowKit

theorem and_lo (x : Int) (h0 : 0 ≤ x) (h1 : x < 1073741824) : bits .and .u64 x 1073741823 = x := by
  rw [u64_and x 1073741823 h0 (by omega) (by omega) (by omega)]
  have : (1073741823 : Int).toNat = 2 ^ 30 - 1 := rfl
  rw [this, Nat.and_two_pow_sub_one_eq_mod, Nat.mod_eq_of_lt (by omega)]
  omega
theorem and_hi (x : Int) (h0 : 0 ≤ x) (h1 : x < 1073741824) : bits .and .u64 x 9223372036854775808 = 0 := by
  rw [u64_and x 9223372036854775808 h0 (by omega) (by omega) (by omega)]
  have : (9223372036854775808 : Int).toNat = 2 ^ 63 := rfl
  rw [this, nat_bit, Nat.div_eq_of_lt (by omega)]
  rfl
theorem or_zero (x : Int) (h0 : 0 ≤ x) (h1 : x < 1073741824) : bits .or .u64 0 x = x := by
  rw [u64_or 0 x (by omega) (by omega) h0 (by omega)]
  simp
  omega
theorem andNot_zero : bits .andNot .u64 0 1073741823 = 0 := by
  rw [u64_andNot 0 1073741823 (by omega) (by omega) (by omega) (by omega)]
  simp

set_option maxHeartbeats 400000 in
theorem nsec_any (b o : Nat) (x : Int) (w : World) (hc : w.cell? ⟨b, o, none⟩ = some (.int .u64 x)) (h0 : 0 ≤ x) (h1 : x < 1000000000) :
    Calls Yba.prog 14 #[.pointer (some ⟨b, o, none⟩)] w fun e w' => e = .returned (.int .i32 x) ∧ w' = w := by
  have ha := and_lo x h0 (by omega)
  go_enter Yba.func14, Yba.ntmps14
  go_wp2
  go_ret
  exact ⟨rfl, rfl⟩

set_option maxHeartbeats 400000 in
theorem sec_any (b o : Nat) (x s : Int) (w : World) (hc : w.cell? ⟨b, o, none⟩ = some (.int .u64 x)) (h0 : 0 ≤ x) (h1 : x < 1000000000) (hs : w.cell? ⟨b, o + 1, none⟩ = some (.int .i64 s)) :
    Calls Yba.prog 17 #[.pointer (some ⟨b, o, none⟩)] w fun e w' => e = .returned (.int .i64 s) ∧ w' = w := by
  have ha := and_hi x h0 (by omega)
  go_enter Yba.func17, Yba.ntmps17
  go_wp2
  go_ret
  exact ⟨rfl, rfl⟩

set_option maxHeartbeats 400000 in
theorem addSec_any (b o : Nat) (x d : Int) (w : World) (hc : w.cell? ⟨b, o, none⟩ = some (.int .u64 x)) (h0 : 0 ≤ x) (h1 : x < 1000000000) (hs : w.cell? ⟨b, o + 1, none⟩ = some (.int .i64 0))
    (hf : w.frozen? ⟨b, o + 1, none⟩ = false) (hd0 : -10000000000 ≤ d) (hd1 : d ≤ 10000000000) :
    Calls Yba.prog 15 #[.pointer (some ⟨b, o, none⟩), .int .i64 d] w fun e w' => e = .returned (.tuple #[]) ∧ w' = w.setCell ⟨b, o + 1, none⟩ (.int .i64 d) := by
  have ha := and_hi x h0 (by omega)
  go_enter Yba.func15, Yba.ntmps15
  go_wp2
  go_end0
  exact ⟨rfl, rfl⟩

set_option maxHeartbeats 400000 in
theorem add_A (d q r : Int) (w : World) (_h0 : -9223372036854775808 ≤ d) (_h1 : d ≤ 9223372036854775807) (hq : d.tdiv 1000000000 = q) (hr : d.tmod 1000000000 = r) (q0 : -10000000000 ≤ q) (q1 : q ≤ 10000000000) (r0 : 0 ≤ r) (r1 : r < 1000000000) :
    Calls Yba.prog 10 #[.agg #[.int .u64 0, .int .i64 0, .pointer none], .int .i64 d] w fun e w' => e = .returned (.agg #[.int .u64 r, .int .i64 q, .pointer none]) ∧ Below w.heap.size w w' := by
  have a1 := and_lo 0 (by omega) (by omega)
  have a2 := andNot_zero
  have a3 := or_zero r (by omega) (by omega)
  have a4 := and_hi r (by omega) (by omega)
  go_enter Yba.func10, Yba.ntmps10
  go_wp2_with fail
  refine (nsec_any _ _ 0 _ ?_ (by omega) (by omega)).mono ?_
  · go_simp
  rintro e w1 ⟨rfl, rfl⟩
  go_wp2_with fail
  refine (addSec_any _ _ r q _ ?_ r0 r1 ?_ ?_ q0 q1).mono ?_
  · go_simp
  · go_simp
  · go_simp
  rintro e w1 ⟨rfl, rfl⟩
  go_wp2
  exact bodyPost_ret (v := .agg #[.int .u64 r, .int .i64 q, .pointer none]) (by simp [results, Yba.results10, go_sem]) rfl ⟨rfl, ((Below.refl _ _).alloc (Nat.le_refl _) _).alloc (by simp) _⟩

set_option maxHeartbeats 400000 in
theorem add_B (d q r : Int) (w : World) (_h0 : -9223372036854775808 ≤ d) (_h1 : d ≤ 9223372036854775807) (hq : d.tdiv 1000000000 = q) (hr : d.tmod 1000000000 = r) (q0 : -10000000000 ≤ q - 1) (q1 : q ≤ 10000000000) (r0 : r < 0) (r1 : -1000000000 < r) :
    Calls Yba.prog 10 #[.agg #[.int .u64 0, .int .i64 0, .pointer none], .int .i64 d] w fun e w' => e = .returned (.agg #[.int .u64 (r + 1000000000), .int .i64 (q - 1), .pointer none]) ∧ Below w.heap.size w w' := by
  have a1 := and_lo 0 (by omega) (by omega)
  have a2 := andNot_zero
  have a3 := or_zero (r + 1000000000) (by omega) (by omega)
  have a4 := and_hi (r + 1000000000) (by omega) (by omega)
  go_enter Yba.func10, Yba.ntmps10
  go_wp2_with fail
  refine (nsec_any _ _ 0 _ ?_ (by omega) (by omega)).mono ?_
  · go_simp
  rintro e w1 ⟨rfl, rfl⟩
  go_wp2_with fail
  refine (addSec_any _ _ (r + 1000000000) (q - 1) _ ?_ (by omega) (by omega) ?_ ?_ (by omega) (by omega)).mono ?_
  · go_simp
  · go_simp
  · go_simp
  rintro e w1 ⟨rfl, rfl⟩
  go_wp2
  exact bodyPost_ret (v := .agg #[.int .u64 (r + 1000000000), .int .i64 (q - 1), .pointer none]) (by simp [results, Yba.results10, go_sem]) rfl ⟨rfl, ((Below.refl _ _).alloc (Nat.le_refl _) _).alloc (by simp) _⟩

/-- 'time.Time{}.Add(d)': the nanoseconds and the seconds of d, both by the floor. -/
theorem add_any (d : Int) (w : World) (h0 : -9223372036854775808 ≤ d) (h1 : d ≤ 9223372036854775807) :
    Calls Yba.prog 10 #[.agg #[.int .u64 0, .int .i64 0, .pointer none], .int .i64 d] w fun e w' => e = .returned (.agg #[.int .u64 (d % 1000000000), .int .i64 (d / 1000000000), .pointer none]) ∧ Below w.heap.size w w' := by
  have e := Int.mul_tdiv_add_tmod d 1000000000
  by_cases hd : 0 ≤ d
  · have e1 : d.tdiv 1000000000 = d / 1000000000 := Int.tdiv_eq_ediv_of_nonneg hd
    have e2 : d.tmod 1000000000 = d % 1000000000 := Int.tmod_eq_emod_of_nonneg hd
    exact add_A d _ _ w h0 h1 e1 e2 (by omega) (by omega) (by omega) (by omega)
  · have hn : 0 ≤ -d := by omega
    have e1 : d.tdiv 1000000000 = -((-d) / 1000000000) := by rw [← Int.tdiv_eq_ediv_of_nonneg hn, Int.neg_tdiv, Int.neg_neg]
    have e2 : d.tmod 1000000000 = -((-d) % 1000000000) := by rw [← Int.tmod_eq_emod_of_nonneg hn, Int.neg_tmod, Int.neg_neg]
    by_cases hz : (-d) % 1000000000 = 0
    · have := add_A d (d / 1000000000) (d % 1000000000) w h0 h1 (by rw [e1]; omega) (by rw [e2]; omega) (by omega) (by omega) (by omega) (by omega)
      exact this
    · have := add_B d (d / 1000000000 + 1) (d % 1000000000 - 1000000000) w h0 h1 (by rw [e1]; omega) (by rw [e2]; omega) (by omega) (by omega) (by omega) (by omega)
      rw [show d % 1000000000 - 1000000000 + 1000000000 = d % 1000000000 from by omega, show d / 1000000000 + 1 - 1 = d / 1000000000 from by omega] at this
      exact this

/-- What 'Compare' answers, of two times by their seconds and nanoseconds. -/
def cmpT (s1 n1 s2 n2 : Int) : Int := if s1 = s2 then (if n1 < n2 then -1 else if n2 < n1 then 1 else 0) else if s1 < s2 then -1 else 1

theorem and_rng (x y : Int) (a0 : 0 ≤ x) (a1 : x < 1000000000) (b0 : 0 ≤ y) (b1 : y < 1000000000) : bits .and .u64 (bits .and .u64 x y) 9223372036854775808 = 0 := by
  rw [u64_and x y a0 (by omega) b0 (by omega)]
  have h : x.toNat &&& y.toNat ≤ x.toNat := Nat.and_le_left
  exact and_hi _ (by omega) (by omega)

section
variable (s1 n1 s2 n2 : Int) (w : World)

set_option maxHeartbeats 400000 in
theorem compare_far (a0 : 0 ≤ n1) (a1 : n1 < 1000000000) (b0 : 0 ≤ n2) (b1 : n2 < 1000000000) (hne : s1 ≠ s2) :
    Calls Yba.prog 11 #[.agg #[.int .u64 n1, .int .i64 s1, .pointer none], .agg #[.int .u64 n2, .int .i64 s2, .pointer none]] w fun e w' => e = .returned (.int .i64 (if s1 < s2 then -1 else 1)) ∧ Below w.heap.size w w' := by
  have ha := and_rng n1 n2 a0 a1 b0 b1
  have hb : (s1 == s2) = false := by simpa using hne
  by_cases hlt : s1 < s2
  · rw [if_pos hlt]
    go_enter Yba.func11, Yba.ntmps11
    go_wp2_with fail
    refine (sec_any _ _ n1 s1 _ ?_ a0 a1 ?_).mono ?_
    · go_simp
    · go_simp
    rintro e w1 ⟨rfl, rfl⟩
    go_wp2_with fail
    refine (sec_any _ _ n2 s2 _ ?_ b0 b1 ?_).mono ?_
    · go_simp
    · go_simp
    rintro e w1 ⟨rfl, rfl⟩
    go_wp2
    go_ret
    exact ⟨rfl, ((Below.refl _ _).alloc (Nat.le_refl _) _).alloc (by simp) _⟩
  · rw [if_neg hlt]
    have hgt : s2 < s1 := by omega
    go_enter Yba.func11, Yba.ntmps11
    go_wp2_with fail
    refine (sec_any _ _ n1 s1 _ ?_ a0 a1 ?_).mono ?_
    · go_simp
    · go_simp
    rintro e w1 ⟨rfl, rfl⟩
    go_wp2_with fail
    refine (sec_any _ _ n2 s2 _ ?_ b0 b1 ?_).mono ?_
    · go_simp
    · go_simp
    rintro e w1 ⟨rfl, rfl⟩
    go_wp2
    go_ret
    exact ⟨rfl, ((Below.refl _ _).alloc (Nat.le_refl _) _).alloc (by simp) _⟩

set_option maxHeartbeats 400000 in
theorem compare_near (s : Int) (c : Int) (a0 : 0 ≤ n1) (a1 : n1 < 1000000000) (b0 : 0 ≤ n2) (b1 : n2 < 1000000000) (hc : (n1 < n2 ∧ c = -1) ∨ (n2 < n1 ∧ c = 1) ∨ (n1 = n2 ∧ c = 0)) :
    Calls Yba.prog 11 #[.agg #[.int .u64 n1, .int .i64 s, .pointer none], .agg #[.int .u64 n2, .int .i64 s, .pointer none]] w fun e w' => e = .returned (.int .i64 c) ∧ Below w.heap.size w w' := by
  have ha := and_rng n1 n2 a0 a1 b0 b1
  rcases hc with ⟨h, rfl⟩ | ⟨h, rfl⟩ | ⟨rfl, rfl⟩
  all_goals
    go_enter Yba.func11, Yba.ntmps11
    go_wp2_with fail
    refine (sec_any _ _ n1 s _ ?_ a0 a1 ?_).mono ?_
    · go_simp
    · go_simp
    rintro e w1 ⟨rfl, rfl⟩
    go_wp2_with fail
  · refine (sec_any _ _ n2 s _ ?_ b0 b1 ?_).mono ?_
    · go_simp
    · go_simp
    rintro e w1 ⟨rfl, rfl⟩
    go_wp2_with fail
    refine (nsec_any _ _ n1 _ ?_ a0 a1).mono ?_
    · go_simp
    rintro e w1 ⟨rfl, rfl⟩
    go_wp2_with fail
    refine (nsec_any _ _ n2 _ ?_ b0 b1).mono ?_
    · go_simp
    rintro e w1 ⟨rfl, rfl⟩
    go_wp2
    go_ret
    exact ⟨rfl, ((Below.refl _ _).alloc (Nat.le_refl _) _).alloc (by simp) _⟩
  · refine (sec_any _ _ n2 s _ ?_ b0 b1 ?_).mono ?_
    · go_simp
    · go_simp
    rintro e w1 ⟨rfl, rfl⟩
    go_wp2_with fail
    refine (nsec_any _ _ n1 _ ?_ a0 a1).mono ?_
    · go_simp
    rintro e w1 ⟨rfl, rfl⟩
    go_wp2_with fail
    refine (nsec_any _ _ n2 _ ?_ b0 b1).mono ?_
    · go_simp
    rintro e w1 ⟨rfl, rfl⟩
    go_wp2
    go_ret
    exact ⟨rfl, ((Below.refl _ _).alloc (Nat.le_refl _) _).alloc (by simp) _⟩
  · refine (sec_any _ _ n1 s _ ?_ a0 a1 ?_).mono ?_
    · go_simp
    · go_simp
    rintro e w1 ⟨rfl, rfl⟩
    go_wp2_with fail
    refine (nsec_any _ _ n1 _ ?_ a0 a1).mono ?_
    · go_simp
    rintro e w1 ⟨rfl, rfl⟩
    go_wp2_with fail
    refine (nsec_any _ _ n1 _ ?_ a0 a1).mono ?_
    · go_simp
    rintro e w1 ⟨rfl, rfl⟩
    go_wp2
    go_ret
    exact ⟨rfl, ((Below.refl _ _).alloc (Nat.le_refl _) _).alloc (by simp) _⟩
end

theorem compare_any (s1 n1 s2 n2 : Int) (w : World) (a0 : 0 ≤ n1) (a1 : n1 < 1000000000) (b0 : 0 ≤ n2) (b1 : n2 < 1000000000) :
    Calls Yba.prog 11 #[.agg #[.int .u64 n1, .int .i64 s1, .pointer none], .agg #[.int .u64 n2, .int .i64 s2, .pointer none]] w fun e w' => e = .returned (.int .i64 (cmpT s1 n1 s2 n2)) ∧ Below w.heap.size w w' := by
  unfold cmpT
  by_cases h : s1 = s2
  · subst h
    rw [if_pos rfl]
    refine compare_near n1 n2 w s1 _ a0 a1 b0 b1 ?_
    by_cases h1 : n1 < n2
    · rw [if_pos h1]; exact .inl ⟨h1, rfl⟩
    · rw [if_neg h1]
      by_cases h2 : n2 < n1
      · rw [if_pos h2]; exact .inr (.inl ⟨h2, rfl⟩)
      · rw [if_neg h2]; exact .inr (.inr ⟨by omega, rfl⟩)
  · rw [if_neg h]
    exact compare_far s1 n1 s2 n2 w a0 a1 b0 b1 h

end Go.Proofs.Ybulkwzq
