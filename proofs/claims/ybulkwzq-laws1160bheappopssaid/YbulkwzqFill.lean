import Derived.Test.YbulkwzqHeapOps
import Derived.Deep.RegionLaw
namespace Go.Proofs.Ybulkwzq
open Go.RowKit HeapMath

theorem info23 : (Yba.prog.info? 23).map (fun i => (i.zero, i.size, i.bytes)) = some (some (.pointer none), 1, 8) := by kernel_rfl

/-- append onto a slice that the call owns, as one step of a region that draws its order. -/
theorem step_append_own {P : Program} {ops : Array Oper} {o : Oper} {a : Act} {w : World} {K : Act → World → Prop} {Q : Exit → Act → World → Prop} {E : Prop}
    (hg : o.guard = none) (s x : Operand) (t : TypeId) (hop : o.op = Op.call { callee := Callee.builtin Builtin.append, args := #[s, x], argTypes := #[t, t] })
    (base : Nat) (e : TypeId) (i : TypeInfo) (z : Value) (size bytes : Nat) (h1 : P.underlying t = some (.slice e)) (h2 : P.info? e = some i) (h3 : i.zero = some z) (h4 : i.size = size) (h5 : i.bytes = bytes) (h6 : z.cells.size = size) (h7 : 0 < size)
    (v : Value) (n : Nat) (xs : List Value) (hs : a.eval s = v) (hown : w.ownsRow base e size v n xs)
    (ad : Addr) (m c : Nat) (news : List Value) (hx : a.eval x = .slice (some ad) m c) (hn : news.length = m * size) (hc : ∀ j u, news[j]? = some u → w.cell? (ad.add j) = some u) (h1c : ∀ u ∈ news, u.oneCell' = true)
    (b1 : n + m ≤ maxLen) (b2 : (n + m) * bytes ≤ 140737488355328) (hb : base ≤ w.heap.size)
    (hK : ∀ v' w', w'.ownsRow base e size v' (n + m) (xs ++ news) → w.grownBy w' v.ownBlock → K (a.put o.dst v') w') :
    if Region.wanted o (yielded ops a.tmps) = true then Oper.wp P o a w K Q else E := by
  have hw : Region.wanted o (yielded ops a.tmps) = true := by simp [Region.wanted, hg]
  rw [if_pos hw]
  obtain ⟨v', w', hrun, r1, r2, _⟩ := run_append_own (P := P) w base t o.type e i z size bytes h1 h2 h3 h4 h5 h6 h7 v n xs hown ad m c news hn hc h1c b1 b2 hb
  unfold Oper.wp
  simp [execOp, hop, resolve, invoke, builtin, hs, hx, hrun, Result.andThen]
  exact hK v' w' r1 r2

def upd (S : Nat → Nat) (k x : Nat) : Nat → Nat := fun i => if i = k then x else S i

section
variable {base qb k : Nat} {S C : Nat → Nat} {t : Nat → Int} {v v2 : Value} {wr w1 w2 : World} {Sn Cn : Nat} {o : Obj}

/-- One suspect more. -/
theorem QS.grow (h : QS base qb k S C t (List.range k) v wr) (hb1 : Below wr.heap.size wr w1) (hs : Sus Sn Cn (t k) k w1)
    (hown : w2.ownsRow base 23 1 v2 (k + 1) ((List.range k).map (ptrTo S) ++ [.pointer (some ⟨Sn, 0, none⟩)])) (hgrow : (w1.alloc o).grownBy w2 v.ownBlock) (hv2 : ∃ g2 c2, v2 = .slice (some ⟨g2, 0, none⟩) (k + 1) c2) :
    QS base qb (k + 1) (upd S k Sn) (upd C k Cn) t (List.range (k + 1)) v2 (w2.setCell ⟨qb, 0, none⟩ v2) ∧ Below base wr (w2.setCell ⟨qb, 0, none⟩ v2) := by
  have h1 := h.later hb1
  -- what lies in w1 and is not the old row lies in w2
  have old : ∀ (b : Nat) (x : Obj), w1.heap[b]? = some x → (∀ cs, x ≠ .cells cs 23 (0, 0)) → w2.heap[b]? = some x := by
    intro b x hx hne
    have hlt := lt_of_heap hx
    rw [hgrow.block b (by simp; omega) ?_, Below.heap_alloc _ _ _ hlt]
    · exact hx
    · intro e
      rcases h1.own.2 with ⟨rfl, _⟩ | ⟨g, cap, cur, rfl, _, hgg, _⟩
      · simp [Value.ownBlock] at e
      · simp only [Value.ownBlock, Option.some.injEq] at e
        subst e
        rw [hgg] at hx
        exact hne cur (Option.some.inj hx).symm
  have hq2 := old qb _ h1.hq (by intro cs e; simp at e)
  obtain ⟨g2, c2, rfl⟩ := hv2
  have hg2 : g2 ≠ qb := by
    intro e
    subst e
    rcases hown.2 with ⟨h0, _⟩ | ⟨g', cap', cur', h0, _, hgg, _⟩
    · simp at h0
    · simp only [Value.slice.injEq, Option.some.injEq, Addr.mk.injEq] at h0
      rw [← h0.1.1, hq2] at hgg
      simp at hgg
  have sus2 : ∀ i Si Ci d, Sus Si Ci d i w1 → Sus Si Ci d i (w2.setCell ⟨qb, 0, none⟩ (.slice (some ⟨g2, 0, none⟩) (k + 1) c2)) := by
    intro i Si Ci d hh
    have a1 := old Si _ hh.hS (by intro cs e; simp at e)
    have a2 := old Ci _ hh.hC (by intro cs e; simp at e)
    have n1 : Si ≠ qb := by intro e; rw [e, hq2] at a1; simp at a1
    have n2 : Ci ≠ qb := by intro e; rw [e, hq2] at a2; simp at a2
    exact ⟨by rw [Below.heap_setCell _ _ _ _ n1]; exact a1, by rw [Below.heap_setCell _ _ _ _ n2]; exact a2⟩
  refine ⟨⟨?_, ?_, fun i hi => ?_, fun i hi => ?_, h.bq⟩, ?_⟩
  · have e : (List.range (k + 1)).map (ptrTo (upd S k Sn)) = (List.range k).map (ptrTo S) ++ [.pointer (some ⟨Sn, 0, none⟩)] := by
      rw [List.range_succ, List.map_append]
      congr 1
      · apply List.map_congr_left
        intro i hi
        have : i ≠ k := by have := List.mem_range.1 hi; omega
        simp [ptrTo, upd, this]
      · simp [ptrTo, upd]
    rw [e, List.length_range]
    exact own_setOther hown (fun e => hg2 e.symm)
  · exact heap_setCell_same w2 qb 0 _ 29 _ hq2
  · by_cases e : i = k
    · subst e
      have := sus2 i Sn Cn (t i) hs
      simpa [upd] using this
    · have := sus2 i (S i) (C i) (t i) (h1.sus i (by omega))
      simpa [upd, e] using this
  · exact List.mem_range.1 hi
  · have hbs : base ≤ w1.heap.size := by have := lt_of_heap h1.hq; have := h.bq; omega
    have hbr : base ≤ wr.heap.size := by have := lt_of_heap h.hq; have := h.bq; omega
    have hb2 : Below base wr w2 := Below.grown ((hb1.mono hbr).alloc hbs o) hgrow (by simp; omega) (fun q hq => (h1.own.lt q hq).1)
    exact hb2.setCell h.bq _

/-- The queue's own cell behind the append. -/
theorem QS.growQ (h : QS base qb k S C t (List.range k) v wr) (hb1 : Below wr.heap.size wr w1) (hgrow : (w1.alloc o).grownBy w2 v.ownBlock) : w2.cell? ⟨qb, 0, none⟩ = some v ∧ w2.frozen? ⟨qb, 0, none⟩ = false := by
  have h1 := h.later hb1
  have hx := h1.hq
  have hlt := lt_of_heap hx
  have hq2 : w2.heap[qb]? = some (.cells #[v, .map none, .map none, .int .i64 0] 29 (0, 0)) := by
    rw [hgrow.block qb (by simp; omega) ?_, Below.heap_alloc _ _ _ hlt]
    · exact hx
    · intro e
      rcases h1.own.2 with ⟨rfl, _⟩ | ⟨g, cap, cur, rfl, _, hgg, _⟩
      · simp [Value.ownBlock] at e
      · simp only [Value.ownBlock, Option.some.injEq] at e
        subst e
        rw [hgg] at hx
        simp at hx
  exact ⟨by rw [cell_of_row w2 qb 0 _ 29 (0, 0) hq2]; rfl, frozen_of_row w2 qb 0 _ 29 hq2⟩
end

theorem own_some {w : World} {base : Nat} {e : TypeId} {size : Nat} {v : Value} {n : Nat} {xs : List Value} (h : w.ownsRow base e size v (n + 1) xs) : ∃ g c, v = .slice (some ⟨g, 0, none⟩) (n + 1) c := by
  rcases h.2 with ⟨_, h0⟩ | ⟨g, cap, cur, rfl, _⟩
  · omega
  · exact ⟨_, _, rfl⟩

theorem one_ptr (x : Option Addr) : ∀ u ∈ [Value.pointer x], u.oneCell' = true := by
  intro u hu
  simp at hu
  subst hu
  rfl

theorem QS.start (w : World) (S C : Nat → Nat) (t : Nat → Int) : QS w.heap.size w.heap.size 0 S C t (List.range 0) (.slice none 0 0) (w.alloc (.cells #[.slice none 0 0, .map none, .map none, .int .i64 0] 29)) :=
  ⟨World.ownsRow_nil _ _ _ _, heap_alloc_new w _, fun i hi => absurd hi (by omega), fun i hi => by simp at hi, Nat.le_refl _⟩

end Go.Proofs.Ybulkwzq
