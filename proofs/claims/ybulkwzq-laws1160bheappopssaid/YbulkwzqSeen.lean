import Derived.Test.YbulkwzqFill
namespace Go.Proofs.Ybulkwzq
open Go.RowKit HeapMath

def tOf (zs : List Int) (i : Nat) : Int := zs.getD i 0

/-- The row 'seen': true where the number has been popped. -/
def seenArr (len : Nat) (dn : List Nat) : Array Value := ((List.range len).map fun j => Value.bool (decide (j ∈ dn))).toArray

theorem seen_at (len : Nat) (dn : List Nat) (j : Nat) (h : j < len) : (seenArr len dn)[j]? = some (.bool (decide (j ∈ dn))) := by
  simp [seenArr, h]

theorem seen_set (len : Nat) (dn : List Nat) (x : Nat) (hx : x < len) : (seenArr len dn).setIfInBounds x (.bool true) = seenArr len (x :: dn) := by
  apply Array.ext_getElem?
  intro j
  rw [Array.getElem?_setIfInBounds]
  by_cases e : x = j
  · subst e
    rw [if_pos rfl, if_pos (by simp [seenArr, hx]), seen_at _ _ _ hx]
    simp
  · rw [if_neg e]
    by_cases h : j < len
    · rw [seen_at _ _ _ h, seen_at _ _ _ h]
      have : ¬ j = x := fun h => e h.symm
      simp [this]
    · simp [seenArr, h]

theorem info4 : (Yba.prog.info? 4).map (fun i => (i.zero, i.size, i.bytes)) = some (some (.bool false), 1, 1) := by kernel_rfl
theorem mkBool (n : Nat) (h : n ≤ 1024) (w : World) : (Instr.makeSlice 35 (.int .i64 (n : Int)) (.int .i64 (n : Int))).run Yba.prog w = .ok (.slice (some ⟨w.heap.size, 0, none⟩) n n) (w.alloc (.cells (seenArr n []) 4)) := by
  obtain ⟨i0, hi, hz0, hz1, hz2⟩ := info_parts info4
  have := run_make (P := Yba.prog) w 35 4 i0 (.bool false) Yba.underlying35 hi hz0 .i64 .i64 (n : Int) (n : Int) (by omega) (Int.le_refl _) (by rw [hz2]; omega) (by omega)
  have e : madeCells (Value.bool false).cells (n * i0.size) = seenArr n [] := by
    rw [hz1]
    apply Array.toList_inj.1
    have := toList_madeCells_one (.bool false) (n * 1)
    show (madeCells #[.bool false] (n * 1)).toList = _
    rw [this]
    apply List.ext_getElem?
    intro j
    by_cases hj : j < n
    · simp [seenArr, hj]
    · simp [seenArr, hj]
  simp only [Int.toNat_natCast, e] at this
  exact this

/-- At the head of round kk of the second loop. -/
structure LP (B len sb : Nat) (S C : Nat → Nat) (t : Nat → Int) (kk : Nat) (p dn : List Nat) (v : Value) (a c : Int) (w wr : World) : Prop where
  q : QS B B len S C t p v wr
  plen : p.length + kk = len
  heap : Heap (lessOf t) p 0 p.length
  perm : (p ++ dn).Perm (List.range len)
  seen : wr.heap[sb]? = some (.cells (seenArr len dn) 4 (0, 0))
  below : Below B w wr
  prev : 0 < kk → ∃ x : Nat, a = t x ∧ c = (x : Int) ∧ ∀ y, y ∈ p → lessOf t y x = false

section
variable {B len sb : Nat} {S C : Nat → Nat} {t : Nat → Int} {kk : Nat} {p dn p3 : List Nat} {v v' : Value} {a c : Int} {w wr w1 : World} {x : Nat}

theorem LP.fresh (h : LP B len sb S C t kk p dn v a c w wr) (hx : x ∈ p) : x < len ∧ x ∉ dn := by
  have hm : x ∈ p ++ dn := List.mem_append_left _ hx
  refine ⟨List.mem_range.1 (h.perm.mem_iff.1 hm), fun hd => ?_⟩
  have hn : (p ++ dn).Nodup := h.perm.nodup_iff.2 List.nodup_range
  exact (List.nodup_append.1 hn).2.2 x hx x hd rfl

/-- 'seen' behind the pop. -/
theorem LP.seenPop (h : LP B len sb S C t kk p dn v a c w wr) (hk : Keeps B v.ownBlock wr w1) : w1.heap[sb]? = some (.cells (seenArr len dn) 4 (0, 0)) := by
  rw [hk.block sb (lt_of_heap h.seen) ?_ ?_]
  · exact h.seen
  · intro e
    have := h.seen
    rw [e, h.q.hq] at this
    simp at this
  · intro e
    rcases h.q.own.2 with ⟨rfl, _⟩ | ⟨g, cap, cur, rfl, _, hgg, _⟩
    · simp [Value.ownBlock] at e
    · simp only [Value.ownBlock, Option.some.injEq] at e
      have := h.seen
      rw [e, hgg] at this
      simp at this

theorem QS.setSeen {n : Nat} {arr : Array Value} (h : QS B B n S C t p v w1) (hs : w1.heap[sb]? = some (.cells arr 4 (0, 0))) (o : Nat) (u : Value) : QS B B n S C t p v (w1.setCell ⟨sb, o, none⟩ u) := by
  have hb : B ≠ sb := by intro e; have := h.hq; rw [e, hs] at this; simp at this
  refine ⟨?_, by rw [Below.heap_setCell _ _ _ _ hb]; exact h.hq, fun i hi => ?_, h.mem, h.bq⟩
  · refine ⟨h.own.1, ?_⟩
    rcases h.own.2 with hn | ⟨g, cap, cur, rfl, hb', hgg, rest⟩
    · exact .inl hn
    · have hg : g ≠ sb := by intro e; rw [e, hs] at hgg; simp at hgg
      exact .inr ⟨g, cap, cur, rfl, hb', by rw [Below.heap_setCell _ _ _ _ hg]; exact hgg, rest⟩
  · have hh := h.sus i hi
    have n1 : S i ≠ sb := by intro e; have := hh.hS; rw [e, hs] at this; simp at this
    have n2 : C i ≠ sb := by intro e; have := hh.hC; rw [e, hs] at this; simp at this
    exact ⟨by rw [Below.heap_setCell _ _ _ _ n1]; exact hh.hS, by rw [Below.heap_setCell _ _ _ _ n2]; exact hh.hC⟩

theorem LP.belowPop (h : LP B len sb S C t kk p dn v a c w wr) (hk : Keeps B v.ownBlock wr w1) : Below B w w1 := by
  refine h.below.trans (hk.below (Nat.le_of_lt (lt_of_heap h.q.hq)) (Nat.le_refl _) fun k hk => ?_)
  exact (h.q.own.lt k hk).1

/-- One round. -/
theorem LP.next (h : LP B len sb S C t kk p dn v a c w wr) (hx : x ∈ p) (hq : QS B B len S C t p3 v' w1) (hp : (x :: p3).Perm p) (m : Nat) (hm : p.length = m + 1) (hh : Heap (lessOf t) p3 0 m) (hfirst : ∀ y, y ∈ p3 → lessOf t y x = false) (hk : Keeps B v.ownBlock wr w1) (hBs : B ≤ sb) :
    LP B len sb S C t (kk + 1) p3 (x :: dn) v' (t x) x w (w1.setCell ⟨sb, x, none⟩ (.bool true)) := by
  have hs := h.seenPop hk
  have hl : p3.length = m := by have := hp.length_eq; simp at this; omega
  refine ⟨hq.setSeen hs x _, by have := h.plen; omega, by rw [hl]; exact hh, ?_, ?_, (h.belowPop hk).setCell hBs _, fun _ => ⟨x, rfl, rfl, hfirst⟩⟩
  · have h1 : (p3 ++ x :: dn).Perm (x :: p3 ++ dn) := List.perm_middle
    exact h1.trans ((hp.append_right dn).trans h.perm)
  · rw [heap_setCell_same w1 sb x _ 4 (.bool true) hs, seen_set _ _ _ (h.fresh hx).1]

/-- What the test of the law asks. -/
theorem LP.test (h : LP B len sb S C t kk p dn v a c w wr) (hx : x ∈ p) (hk : 0 < kk) : ¬ a < t x ∧ (t x = a → ¬ (x : Int) < c) := by
  obtain ⟨y, rfl, rfl, hall⟩ := h.prev hk
  have := hall x hx
  unfold lessOf at this
  rw [← Bool.not_eq_true, lessB_iff] at this
  omega
end

end Go.Proofs.Ybulkwzq
