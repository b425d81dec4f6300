import Derived.Test.YbulkwzqDown
namespace Go.Proofs.Ybulkwzq
open Go.RowKit HeapMath

set_option maxHeartbeats 400000 in
/-- 'heap.Init(q)'. -/
theorem init_any {base qb n : Nat} {S C : Nat → Nat} {t : Nat → Int} {p : List Nat} {v : Value} {w : World} (h : QS base qb n S C t p v w) (hlen : p.length ≤ 1024) :
    Calls Yba.prog 7 #[.iface 22 (.pointer (some ⟨qb, 0, none⟩))] w fun e w' => ∃ p', e = .returned (.tuple #[]) ∧ QS base qb n S C t p' v w' ∧ p'.Perm p ∧ Heap (lessOf t) p' 0 p.length ∧ Keeps qb v.ownBlock w w' := by
  have k3 := mLen
  go_enter Yba.func7, Yba.ntmps7
  go_wp2_with fail
  refine (len_q h).mono ?_
  rintro e w1 ⟨rfl, hw1⟩
  subst hw1
  go_wp2_with fail
  go_loopw [3] (fun si wr => ∃ (k : Nat) (p' : List Nat), si = .int .i64 ((k : Int) - 1) ∧ k ≤ 1024 ∧ QS base qb n S C t p' v wr ∧ p'.Perm p ∧ Heap (lessOf t) p' k p.length ∧ Keeps qb v.ownBlock w1 wr) (fun si _ => (intOf si + 1).toNat)
  case atStart => exact ⟨p.length / 2, p, by go_num, by omega, h, .refl _, heap_high p _ _ (by omega), Keeps.refl _ _ _⟩
  case round =>
    obtain ⟨k, p', rfl, hk, hq, hp, hh, hb⟩ := hrel
    have hpl : p.length ≤ p'.length := Nat.le_of_eq hp.length_eq.symm
    have hpl2 : p'.length ≤ p.length := Nat.le_of_eq hp.length_eq
    by_cases h0 : 0 < k
    · obtain ⟨j, rfl⟩ : ∃ j, k = j + 1 := ⟨k - 1, by omega⟩
      go_wp2_with fail
      refine (down_any hq (by omega) j p.length _ _ (by omega) rfl hpl (by omega) (sift_start hh)).mono ?_
      rintro e w2 ⟨b, p2, rfl, hq2, hp2, _, hh2, hb2⟩
      go_wp2
      go_roundw
      case rel => exact ⟨j, p2, by go_num, by omega, hq2, hp2.trans hp, hh2, hb.trans hb2⟩
      case measure => simp [intOf]
    · have hk0 : k = 0 := by omega
      subst hk0
      go_wp2
      go_end0
      exact ⟨p', rfl, hq, hp, hh, hb⟩

set_option maxHeartbeats 400000 in
/-- 'heap.Pop(q)': the first of all; what is left is a heap still. -/
theorem hpop_any {base qb n : Nat} {S C : Nat → Nat} {t : Nat → Int} {p : List Nat} {v : Value} {w : World} (h : QS base qb n S C t p v w) (m : Nat) (hm : p.length = m + 1) (hlen : m ≤ 1000) (hh : Heap (lessOf t) p 0 (m + 1)) (x : Nat) (hx0 : p.getD 0 0 = x) :
    Calls Yba.prog 9 #[.iface 22 (.pointer (some ⟨qb, 0, none⟩))] w fun e w' => ∃ p3 v', e = .returned (.iface 23 (.pointer (some ⟨S x, 0, none⟩))) ∧ QS base qb n S C t p3 v' w' ∧ v'.ownBlock = v.ownBlock ∧ (x :: p3).Perm p ∧ Heap (lessOf t) p3 0 m ∧ (∀ y, y ∈ p3 → lessOf t y x = false) ∧ Keeps qb v.ownBlock w w' := by
  have HX : Hid (p.getD 0 0 = x) := hx0
  clear hx0
  have k2 := mSwap
  have k3 := mLen
  have k4 := mPop
  have hroot := heap_root (ordOf t) (irrOf t) hh
  have hM : Hid (p.length = m + 1) := hm
  have hl1 : p.length ≤ m + 1 := by omega
  have hl2 : m + 1 ≤ p.length := by omega
  have HL := len_q h
  rw [hm] at HL
  clear hm
  go_enter Yba.func9, Yba.ntmps9
  go_wp2_with fail
  refine HL.mono ?_
  rintro e w1 ⟨rfl, hw1⟩
  subst hw1
  clear HL
  go_wp2_with fail
  refine (swap_q h 0 m _ _ (by omega) (by omega) rfl (by omega)).mono ?_
  rintro e w2 ⟨rfl, hq2, hb2⟩
  have hsl : (swp p 0 m).length = m + 1 := (swp_length p 0 m).trans hM.out
  have hsl1 : (swp p 0 m).length ≤ m + 1 := by omega
  have hsl2 : m + 1 ≤ (swp p 0 m).length := by omega
  clear hsl
  go_wp2_with fail
  refine (down_any hq2 (by omega) 0 m _ _ rfl (by omega) (by omega) (by omega) (sift_pop hM.out hh)).mono ?_
  rintro e w3 ⟨b, p2, rfl, hq3, hp3, hby, hh3, hb3⟩
  have hx : x = p.getD 0 0 := HX.out.symm
  have hx2 : p2.getD m 0 = x := by
    rw [hby m (Nat.le_refl _), swp_get p 0 m m (by omega) (by omega), if_pos rfl, hx]
  have hl3 : p2.length = m + 1 := by rw [hp3.length_eq, swp_length]; exact hM.out
  have hp2 : p2 = p2.take m ++ [x] := by
    have e1 : p2.take (m + 1) = p2 := List.take_of_length_le (by omega)
    have e2 := List.take_succ_eq_append_getElem (l := p2) (i := m) (by omega)
    rw [e1] at e2
    rw [List.getD_eq_getElem?_getD, List.getElem?_eq_getElem (by omega)] at hx2
    simp only [Option.getD_some] at hx2
    rw [hx2] at e2
    exact e2
  have hperm : (x :: p2.take m).Perm p := by
    have h1 : (p2.take m ++ [x]).Perm p := by
      rw [← hp2]
      exact hp3.trans (swp_perm p 0 m (by omega) (by omega))
    exact (List.perm_append_singleton x (p2.take m)).symm.trans h1
  have hheap : Heap (lessOf t) (p2.take m) 0 m := heap_congr hh3 (fun k hk => by
    rw [List.getD_eq_getElem?_getD, List.getElem?_take, if_pos hk, ← List.getD_eq_getElem?_getD])
  have hfirst : ∀ y, y ∈ p2.take m → lessOf t y x = false := by
    intro y hy
    have hyp : y ∈ p := hperm.mem_iff.1 (List.mem_cons_of_mem _ hy)
    obtain ⟨k, hk, hky⟩ := List.getElem_of_mem hyp
    have := hroot k (by omega)
    rw [List.getD_eq_getElem?_getD, List.getElem?_eq_getElem hk] at this
    simp only [Option.getD_some] at this
    rw [hky, ← hx] at this
    exact this
  have hq4 : QS base qb n S C t (p2.take m ++ [x]) v w3 := by rw [← hp2]; exact hq3
  have htl : (p2.take m).length ≤ 1024 := by simp; omega
  generalize p2.take m = p4 at hperm hheap hfirst hq4 htl
  have HE : Hid ((x :: p4).Perm p ∧ Heap (lessOf t) p4 0 m ∧ (∀ y, y ∈ p4 → lessOf t y x = false)) := ⟨hperm, hheap, hfirst⟩
  have hb13 : Keeps qb v.ownBlock w1 w3 := hb2.trans hb3
  clear hperm hheap hfirst hp2 hx2 hby hh3 hp3 hroot hh hq2 hq3 h hx hl3 hb2 hb3
  go_wp2_with fail
  refine (pop_q hq4 htl).mono ?_
  rintro e w5 ⟨rfl, ⟨v', hq5, hv5⟩, hb5⟩
  go_wp2
  go_ret
  exact ⟨p4, v', rfl, hq5, hv5, HE.out.1, HE.out.2.1, HE.out.2.2, hb13.trans hb5⟩

end Go.Proofs.Ybulkwzq
