/- The plain mathematics of a binary heap on a list of numbers. No Go here. -/
namespace Go.Proofs.Ybulkwzq.HeapMath

/-- Two places exchanged. -/
def swp (p : List Nat) (i j : Nat) : List Nat := (p.set i (p.getD j 0)).set j (p.getD i 0)

theorem swp_length (p : List Nat) (i j : Nat) : (swp p i j).length = p.length := by simp [swp]

theorem swp_get (p : List Nat) (i j k : Nat) (hi : i < p.length) (hj : j < p.length) : (swp p i j).getD k 0 = if k = j then p.getD i 0 else if k = i then p.getD j 0 else p.getD k 0 := by
  unfold swp
  rw [List.getD_eq_getElem?_getD, List.getElem?_set]
  by_cases h1 : k = j
  · subst h1; simp [hj]
  · rw [if_neg (fun e => h1 e.symm), if_neg h1, List.getElem?_set]
    by_cases h2 : k = i
    · subst h2; simp [hi]
    · rw [if_neg (fun e => h2 e.symm), if_neg h2, ← List.getD_eq_getElem?_getD]

theorem count_set (p : List Nat) (i : Nat) (hi : i < p.length) (x a : Nat) : (p.set i x).count a + (if p.getD i 0 = a then 1 else 0) = p.count a + (if x = a then 1 else 0) := by
  induction p generalizing i with
  | nil => simp at hi
  | cons y p ih =>
    cases i with
    | zero => simp only [List.set_cons_zero, List.count_cons, List.getD_cons_zero, beq_iff_eq]; omega
    | succ i =>
      have := ih i (by simpa using hi)
      simp only [List.set_cons_succ, List.count_cons, List.getD_cons_succ]
      omega

theorem swp_perm (p : List Nat) (i j : Nat) (hi : i < p.length) (hj : j < p.length) : (swp p i j).Perm p := by
  rw [List.perm_iff_count]
  intro a
  have h1 := count_set p i hi (p.getD j 0) a
  have h2 := count_set (p.set i (p.getD j 0)) j (by simpa using hj) (p.getD i 0) a
  have h3 : (p.set i (p.getD j 0)).getD j 0 = p.getD j 0 := by
    rw [List.getD_eq_getElem?_getD, List.getElem?_set]
    by_cases e : i = j
    · subst e; simp [hi]
    · rw [if_neg e, ← List.getD_eq_getElem?_getD]
  rw [h3] at h2
  unfold swp
  omega

/-- An order: irreflexive would follow; what is asked: no two ways, and 'not less' goes on. -/
structure Ord (less : Nat → Nat → Bool) : Prop where
  asym : ∀ a b, less a b = true → less b a = false
  trans : ∀ a b c, less b a = false → less c b = false → less c a = false

/-- c is a child of k. -/
def Child (k c : Nat) : Prop := c = 2 * k + 1 ∨ c = 2 * k + 2

/-- From i0 on, within n: no child comes before its parent. -/
def Heap (less : Nat → Nat → Bool) (p : List Nat) (i0 n : Nat) : Prop := ∀ k c, i0 ≤ k → Child k c → c < n → less (p.getD c 0) (p.getD k 0) = false

/-- The same but at the place i; and what lies below i does not come before what lies above it. -/
structure Sift (less : Nat → Nat → Bool) (p : List Nat) (i0 i n : Nat) : Prop where
  from_ : i0 ≤ i
  rest : ∀ k c, i0 ≤ k → Child k c → c < n → k ≠ i → less (p.getD c 0) (p.getD k 0) = false
  over : ∀ k c, i0 ≤ k → Child k i → Child i c → c < n → less (p.getD c 0) (p.getD k 0) = false

variable {less : Nat → Nat → Bool}

theorem sift_start {p : List Nat} {i0 n : Nat} (h : Heap less p (i0 + 1) n) : Sift less p i0 i0 n := by
  refine ⟨Nat.le_refl _, fun k c hk hc hn hne => h k c (by omega) hc hn, fun k c hk hki _ _ => ?_⟩
  unfold Child at hki
  omega

/-- No child within n: done. -/
theorem sift_leaf {p : List Nat} {i0 i n : Nat} (h : Sift less p i0 i n) (hl : n ≤ 2 * i + 1) : Heap less p i0 n := by
  intro k c hk hc hn
  by_cases e : k = i
  · subst e; unfold Child at hc; omega
  · exact h.rest k c hk hc hn e

/-- The lesser child does not come before i: done. -/
theorem sift_stop (O : Ord less) {p : List Nat} {i0 i j n : Nat} (h : Sift less p i0 i n) (hmin : ∀ c, Child i c → c < n → less (p.getD c 0) (p.getD j 0) = false) (hs : less (p.getD j 0) (p.getD i 0) = false) : Heap less p i0 n := by
  intro k c hk hc hn
  by_cases e : k = i
  · subst e
    exact O.trans _ _ _ hs (hmin c hc hn)
  · exact h.rest k c hk hc hn e

/-- The lesser child comes before i: exchanged, and on from there. -/
theorem sift_go (O : Ord less) {p : List Nat} {i0 i j n : Nat} (h : Sift less p i0 i n) (hj : Child i j) (hjn : j < n) (hn : n ≤ p.length) (hmin : ∀ c, Child i c → c < n → less (p.getD c 0) (p.getD j 0) = false) (hs : less (p.getD j 0) (p.getD i 0) = true) : Sift less (swp p i j) i0 j n := by
  have hij : i < j := by unfold Child at hj; omega
  have g := fun k => swp_get p i j k (by omega) (by omega)
  have h0 := h.from_
  refine ⟨by omega, fun k c hk hc hcn hkj => ?_, fun k c hk hkj hjc hcn => ?_⟩
  · have hkc : k < c := by unfold Child at hc; omega
    by_cases e : k = i
    · subst e
      rw [g k, if_neg (by omega), if_pos rfl, g c]
      by_cases e2 : c = j
      · rw [if_pos e2]; exact O.asym _ _ hs
      · rw [if_neg e2, if_neg (by omega)]; exact hmin c hc hcn
    · rw [g k, if_neg hkj, if_neg e, g c]
      by_cases e2 : c = j
      · exfalso; subst e2; unfold Child at hc hj; omega
      · rw [if_neg e2]
        by_cases e3 : c = i
        · subst e3
          rw [if_pos rfl]
          exact h.over k j hk hc hj hjn
        · rw [if_neg e3]
          exact h.rest k c hk hc hcn e
  · have e1 : k = i := by unfold Child at hkj hj; omega
    subst e1
    have hc2 : j < c := by unfold Child at hjc; omega
    rw [g k, if_neg (by omega), if_pos rfl, g c, if_neg (by omega), if_neg (by omega)]
    exact h.rest j c (by omega) hjc hcn (by omega)

theorem swp_beyond (p : List Nat) (i j n m : Nat) (hi : i < n) (hj : j < n) (hn : n ≤ p.length) (hm : n ≤ m) : (swp p i j).getD m 0 = p.getD m 0 := by
  rw [swp_get p i j m (by omega) (by omega), if_neg (by omega), if_neg (by omega)]

/-- The root comes before no one it should not: it is the first. -/
theorem heap_root (O : Ord less) (hirr : ∀ a, less a a = false) {p : List Nat} {n : Nat} (h : Heap less p 0 n) : ∀ m, m < n → less (p.getD m 0) (p.getD 0 0) = false := by
  intro m
  induction m using Nat.strongRecOn with
  | ind m ih =>
    intro hm
    by_cases e : m = 0
    · subst e; exact hirr _
    · have hc : Child ((m - 1) / 2) m := by unfold Child; omega
      exact O.trans _ _ _ (ih ((m - 1) / 2) (by omega) (by omega)) (h _ m (Nat.zero_le _) hc hm)

/-- Behind the exchange of the root with the last: a sift from the root, within what is left. -/
theorem sift_pop {p : List Nat} {n : Nat} (hn : p.length = n + 1) (h : Heap less p 0 (n + 1)) : Sift less (swp p 0 n) 0 0 n := by
  refine ⟨Nat.le_refl _, fun k c hk hc hcn hne => ?_, fun k c _ hki _ _ => by unfold Child at hki; omega⟩
  have hkc : k < c := by unfold Child at hc; omega
  rw [swp_get p 0 n k (by omega) (by omega), swp_get p 0 n c (by omega) (by omega), if_neg (by omega), if_neg (by omega), if_neg (by omega), if_neg (by omega)]
  exact h k c hk hc (by omega)

theorem heap_high (p : List Nat) (i0 n : Nat) (h : n ≤ 2 * i0 + 1) : Heap less p i0 n := by
  intro k c hk hc hn
  unfold Child at hc
  omega

theorem heap_congr {p q : List Nat} {i0 n : Nat} (h : Heap less p i0 n) (e : ∀ k, k < n → q.getD k 0 = p.getD k 0) : Heap less q i0 n := by
  intro k c hk hc hn
  have hkc : k < c := by unfold Child at hc; omega
  rw [e k (by omega), e c hn]
  exact h k c hk hc hn

end Go.Proofs.Ybulkwzq.HeapMath
