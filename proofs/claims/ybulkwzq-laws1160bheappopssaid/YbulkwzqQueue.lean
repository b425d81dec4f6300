import Derived.Test.YbulkwzqLess
import Derived.Test.YbulkwzqSwap
import Derived.Test.YbulkwzqPop
import Derived.Test.YbulkwzqHeapMath
namespace Go.Proofs.Ybulkwzq
open Go.RowKit HeapMath

def ptrTo (S : Nat → Nat) (i : Nat) : Value := .pointer (some ⟨S i, 0, none⟩)

/-- The queue at block qb, its heap the suspects 'p' in this order; suspect i lies at block S i, its commit at C i, its time is t i. -/
structure QS (base qb n : Nat) (S C : Nat → Nat) (t : Nat → Int) (p : List Nat) (v : Value) (w : World) : Prop where
  own : w.ownsRow base 23 1 v p.length (p.map (ptrTo S))
  hq : w.heap[qb]? = some (.cells #[v, .map none, .map none, .int .i64 0] 29 (0, 0))
  sus : ∀ i, i < n → Sus (S i) (C i) (t i) i w
  mem : ∀ i, i ∈ p → i < n
  bq : base ≤ qb

/-- The queue's own block and the block g may have turned; no other that was there. -/
structure Keeps (qb : Nat) (g : Option Nat) (w w' : World) : Prop where
  os : w'.os = w.os
  tape : w'.tape = w.tape
  output : w'.output = w.output
  size : w.heap.size ≤ w'.heap.size
  block : ∀ k, k < w.heap.size → k ≠ qb → some k ≠ g → w'.heap[k]? = w.heap[k]?

theorem Keeps.refl (qb : Nat) (g : Option Nat) (w : World) : Keeps qb g w w := ⟨rfl, rfl, rfl, Nat.le_refl _, fun _ _ _ _ => rfl⟩
theorem Keeps.trans {qb : Nat} {g : Option Nat} {a b c : World} (h : Keeps qb g a b) (k : Keeps qb g b c) : Keeps qb g a c :=
  ⟨k.os.trans h.os, k.tape.trans h.tape, k.output.trans h.output, Nat.le_trans h.size k.size, fun i hi h1 h2 => (k.block i (Nat.lt_of_lt_of_le hi h.size) h1 h2).trans (h.block i hi h1 h2)⟩
theorem Keeps.of_below {qb : Nat} {g : Option Nat} {w w' : World} (h : Below w.heap.size w w') : Keeps qb g w w' := ⟨h.os, h.tape, h.output, h.size, fun k hk _ _ => h.block k hk⟩
theorem Keeps.below {qb : Nat} {g : Option Nat} {w w' : World} (h : Keeps qb g w w') {B : Nat} (hB : B ≤ w.heap.size) (hq : B ≤ qb) (hg : ∀ k, g = some k → B ≤ k) : Below B w w' :=
  ⟨h.os, h.tape, h.output, h.size, fun k hk => h.block k (by omega) (by omega) (fun e => by have := hg k e.symm; omega)⟩
theorem Keeps.of_sets {qb g : Nat} {w w' : World} {a b : Addr} {u v : Value} (hs : Same w' ((w.setCell a u).setCell b v)) (ha : a.block = qb ∨ a.block = g) (hb : b.block = qb ∨ b.block = g) : Keeps qb (some g) w w' := by
  refine ⟨hs.2.1, hs.2.2.1, hs.2.2.2, by rw [hs.1]; simp, fun k hk h1 h2 => ?_⟩
  have h3 : k ≠ g := fun e => h2 (by rw [e])
  rw [hs.1, Below.heap_setCell _ _ _ _ (by rcases hb with e | e <;> rw [e] <;> assumption), Below.heap_setCell _ _ _ _ (by rcases ha with e | e <;> rw [e] <;> assumption)]

section
variable {base qb n : Nat} {S C : Nat → Nat} {t : Nat → Int} {p : List Nat} {v : Value} {w w' : World}

theorem own_below {B base : Nat} {e : TypeId} {size : Nat} {v : Value} {n : Nat} {xs : List Value} {w w' : World} (h : w.ownsRow base e size v n xs) (hb : Below B w w') (hlt : ∀ k, v.ownBlock = some k → k < B) : w'.ownsRow base e size v n xs := by
  refine ⟨h.1, ?_⟩
  rcases h.2 with hn | ⟨g, cap, cur, rfl, hb', hgg, rest⟩
  · exact .inl hn
  · refine .inr ⟨g, cap, cur, rfl, hb', ?_, rest⟩
    rw [hb.block g (hlt g rfl)]
    exact hgg

theorem own_setOther {base : Nat} {e : TypeId} {size g m cap : Nat} {n : Nat} {xs : List Value} {w : World} (h : w.ownsRow base e size (.slice (some ⟨g, 0, none⟩) m cap) n xs) {a : Addr} (ha : a.block ≠ g) {u : Value} : (w.setCell a u).ownsRow base e size (.slice (some ⟨g, 0, none⟩) m cap) n xs := by
  refine ⟨h.1, ?_⟩
  rcases h.2 with hn | ⟨g', cap', cur, he, hb', hgg, rest⟩
  · exact .inl hn
  · refine .inr ⟨g', cap', cur, he, hb', ?_, rest⟩
    simp only [Value.slice.injEq, Option.some.injEq, Addr.mk.injEq] at he
    rw [Below.heap_setCell _ _ _ _ (by rw [← he.1.1]; exact fun e => ha e.symm)]
    exact hgg

theorem lt_of_heap {w : World} {k : Nat} {o : Obj} (h : w.heap[k]? = some o) : k < w.heap.size := (Array.getElem?_eq_some_iff.1 h).1

theorem QS.later (h : QS base qb n S C t p v w) (hb : Below w.heap.size w w') : QS base qb n S C t p v w' :=
  ⟨own_below h.own hb (fun k hk => (h.own.lt k hk).2), (hb.block qb (lt_of_heap h.hq)).trans h.hq,
    fun i hi => (h.sus i hi).later hb (lt_of_heap (h.sus i hi).hS) (lt_of_heap (h.sus i hi).hC), h.mem, h.bq⟩

theorem QS.same (h : QS base qb n S C t p v w) (hs : Same w' w) : QS base qb n S C t p v w' :=
  h.later (hs.below (Below.refl _ _))

theorem QS.cellQ (h : QS base qb n S C t p v w) : w.cell? ⟨qb, 0, none⟩ = some v := by
  rw [cell_of_row w qb 0 _ 29 (0, 0) h.hq]; rfl
theorem QS.cellM (h : QS base qb n S C t p v w) : w.cell? ⟨qb, 1, none⟩ = some (.map none) := by
  rw [cell_of_row w qb 1 _ 29 (0, 0) h.hq]; rfl
theorem QS.frozenQ (h : QS base qb n S C t p v w) (o : Nat) : w.frozen? ⟨qb, o, none⟩ = false := frozen_of_row w qb o _ 29 h.hq

/-- Where there is an element there is a row. -/
theorem QS.row (h : QS base qb n S C t p v w) (hp : 0 < p.length) : ∃ g cap, v = .slice (some ⟨g, 0, none⟩) p.length cap ∧ p.length ≤ cap ∧ base ≤ g ∧ ∃ cur, w.heap[g]? = some (.cells cur 23 (0, 0)) := by
  rcases h.own.2 with ⟨rfl, h0⟩ | ⟨g, cap, cur, rfl, hb, hg, hc, _⟩
  · omega
  · exact ⟨g, cap, rfl, hc, hb, cur, hg⟩

theorem QS.cellAt {g cap : Nat} (h : QS base qb n S C t p (.slice (some ⟨g, 0, none⟩) p.length cap) w) (j : Nat) (hj : j < p.length) : w.cell? ⟨g, j, none⟩ = some (.pointer (some ⟨S (p.getD j 0), 0, none⟩)) := by
  rw [h.own.cellAt j (by omega), List.getElem?_map, List.getElem?_eq_getElem hj]
  simp [ptrTo, hj]

theorem QS.memAt (h : QS base qb n S C t p v w) (j : Nat) (hj : j < p.length) : p.getD j 0 < n := by
  apply h.mem
  rw [List.getD_eq_getElem?_getD, List.getElem?_eq_getElem hj]
  exact List.getElem_mem hj

theorem QS.len (h : QS base qb n S C t p v w) : ∃ a c, v = .slice a p.length c := by
  rcases h.own.2 with ⟨rfl, h0⟩ | ⟨g, cap, cur, rfl, hb, hg, hc, _⟩
  · exact ⟨none, 0, by rw [h0]⟩
  · exact ⟨_, _, rfl⟩

set_option maxHeartbeats 400000 in
theorem len_raw (qb m cap : Nat) (a : Option Addr) (w : World) (hq : w.cell? ⟨qb, 0, none⟩ = some (.slice a m cap)) :
    Calls Yba.prog 8 #[.pointer (some ⟨qb, 0, none⟩)] w fun e w' => e = .returned (.int .i64 m) ∧ w' = w := by
  go_enter Yba.func8, Yba.ntmps8
  go_wp2
  go_ret
  exact ⟨rfl, rfl⟩

theorem len_q (h : QS base qb n S C t p v w) : Calls Yba.prog 8 #[.pointer (some ⟨qb, 0, none⟩)] w fun e w' => e = .returned (.int .i64 p.length) ∧ w' = w := by
  obtain ⟨a, c, rfl⟩ := h.len
  exact len_raw qb p.length c a w h.cellQ

def lessOf (t : Nat → Int) (a b : Nat) : Bool := lessB (t a) a (t b) b

theorem less_q (h : QS base qb n S C t p v w) (i j : Nat) (I J : Int) (hi : i < p.length) (hj : j < p.length) (hI : I = i) (hJ : J = j) :
    Calls Yba.prog 6 #[.pointer (some ⟨qb, 0, none⟩), .int .i64 I, .int .i64 J] w fun e w' => e = .returned (.bool (lessOf t (p.getD i 0) (p.getD j 0))) ∧ QS base qb n S C t p v w' ∧ Below w.heap.size w w' := by
  obtain ⟨g, cap, rfl, hcap, hbg, cur, hg⟩ := h.row (by omega)
  have hm := (less_at qb g p.length cap i j _ _ _ _ _ _ _ _ I J w h.cellQ hi hj (h.cellAt i hi) (h.cellAt j hj) (h.sus _ (h.memAt i hi)) (h.sus _ (h.memAt j hj)) hI hJ)
  exact hm.mono fun e w' hh => ⟨hh.1, h.later hh.2, hh.2⟩

theorem set_ptr (S : Nat → Nat) (p : List Nat) (i x : Nat) : (p.map (ptrTo S)).set i (ptrTo S x) = (p.set i x).map (ptrTo S) := by
  rw [List.map_set]

theorem swap_q (h : QS base qb n S C t p v w) (i j : Nat) (I J : Int) (hi : i < p.length) (hj : j < p.length) (hI : I = i) (hJ : J = j) :
    Calls Yba.prog 35 #[.pointer (some ⟨qb, 0, none⟩), .int .i64 I, .int .i64 J] w fun e w' => e = .returned (.tuple #[]) ∧ QS base qb n S C t (swp p i j) v w' ∧ Keeps qb v.ownBlock w w' := by
  subst hI hJ
  obtain ⟨g, cap, rfl, hcap, hbg, cur, hg⟩ := h.row (by omega)
  have hgq : qb ≠ g := by
    intro e
    subst e
    have := h.hq
    rw [hg] at this
    simp at this
  have hfz : ∀ o, w.frozen? ⟨g, o, none⟩ = false := fun o => frozen_of_row w g o cur 23 hg
  have key : ∀ w', Same w' ((w.setCell ⟨g, i, none⟩ (ptrTo S (p.getD j 0))).setCell ⟨g, j, none⟩ (ptrTo S (p.getD i 0))) → QS base qb n S C t (swp p i j) (.slice (some ⟨g, 0, none⟩) p.length cap) w' ∧ Keeps qb (some g) w w' := by
    intro w' hs
    refine ⟨QS.same ?_ hs, Keeps.of_sets hs (.inr rfl) (.inr rfl)⟩
    have ho := ((h.own.stored i (ptrTo S (p.getD j 0))).1.stored j (ptrTo S (p.getD i 0))).1
    rw [set_ptr, set_ptr] at ho
    refine ⟨?_, ?_, fun k hk => ?_, fun k hk => ?_, h.bq⟩
    · rw [swp_length]; exact ho
    · rw [Below.heap_setCell _ _ _ _ hgq, Below.heap_setCell _ _ _ _ hgq]; exact h.hq
    · have hs := h.sus k hk
      have e1 : S k ≠ g := by intro e; have := hs.hS; rw [e, hg] at this; simp at this
      have e2 : C k ≠ g := by intro e; have := hs.hC; rw [e, hg] at this; simp at this
      exact ⟨by rw [Below.heap_setCell _ _ _ _ e1, Below.heap_setCell _ _ _ _ e1]; exact hs.hS, by rw [Below.heap_setCell _ _ _ _ e2, Below.heap_setCell _ _ _ _ e2]; exact hs.hC⟩
    · exact h.mem k ((swp_perm p i j hi hj).mem_iff.1 hk)
  by_cases e : i = j
  · subst e
    exact (swap_eq qb g p.length cap i _ w h.cellQ (by omega) hgq (h.cellAt i hi) hfz).mono fun e w' hh => ⟨hh.1, key w' hh.2⟩
  · exact (swap_ne qb g p.length cap i j _ _ w h.cellQ (by omega) (by omega) e hgq (h.cellAt i hi) (h.cellAt j hj) hfz).mono fun e w' hh => ⟨hh.1, key w' hh.2⟩

theorem pop_q {x : Nat} (h : QS base qb n S C t (p ++ [x]) v w) (hp : p.length ≤ 1024) :
    Calls Yba.prog 34 #[.pointer (some ⟨qb, 0, none⟩)] w fun e w' => e = .returned (.iface 23 (.pointer (some ⟨S x, 0, none⟩))) ∧ (∃ v', QS base qb n S C t p v' w' ∧ v'.ownBlock = v.ownBlock) ∧ Keeps qb v.ownBlock w w' := by
  obtain ⟨g, cap, rfl, hcap, hbg, cur, hg⟩ := h.row (by simp)
  have hl : (p ++ [x]).length = p.length + 1 := by simp
  have hgq : qb ≠ g := by
    intro e
    subst e
    have := h.hq
    rw [hg] at this
    simp at this
  have hx : (p ++ [x]).getD p.length 0 = x := by simp
  have hs := h.sus x (h.mem x (by simp))
  have e1 : ∀ k, k < n → S k ≠ g := by intro k hk e; have := (h.sus k hk).hS; rw [e, hg] at this; simp at this
  have e2 : ∀ k, k < n → C k ≠ g := by intro k hk e; have := (h.sus k hk).hC; rw [e, hg] at this; simp at this
  have e3 : ∀ k, k < n → S k ≠ qb := by intro k hk e; have := (h.sus k hk).hS; rw [e, h.hq] at this; simp at this
  have e4 : ∀ k, k < n → C k ≠ qb := by intro k hk e; have := (h.sus k hk).hC; rw [e, h.hq] at this; simp at this
  have hxn : x < n := h.mem x (by simp)
  have hc := h.cellAt p.length (by simp)
  rw [hx] at hc
  have hq0 := h.cellQ
  rw [hl] at hq0 hcap
  refine (pop_raw qb g p.length cap (S x) (C x) (t x) x w hq0 h.cellM hcap hp hgq (e1 x hxn) (e3 x hxn) (e2 x hxn) (e4 x hxn) hc hs (fun o => frozen_of_row w g o cur 23 hg) h.frozenQ).mono ?_
  rintro e w' ⟨rfl, hsm⟩
  refine ⟨rfl, ⟨.slice (some ⟨g, 0, none⟩) p.length cap, QS.same ?_ hsm, rfl⟩, Keeps.of_sets hsm (.inr rfl) (.inl rfl)⟩
  have ho := h.own
  rw [hl] at ho
  have ho1 := (ho.stored p.length (.pointer none)).1
  have hset : ((p ++ [x]).map (ptrTo S)).set p.length (.pointer none) = p.map (ptrTo S) ++ [.pointer none] := by
    rw [List.map_append, List.set_append_right _ _ (by simp)]
    simp
  rw [hset] at ho1
  have ho2 := ownsRow_pop (by simp) ho1
  have hq' : (w.setCell ⟨g, p.length, none⟩ (.pointer none)).heap[qb]? = _ := (Below.heap_setCell w ⟨g, p.length, none⟩ (.pointer none) qb hgq).trans h.hq
  refine ⟨own_setOther ho2 hgq, ?_, fun k hk => ?_, fun k hk => h.mem k (by simp [hk]), h.bq⟩
  · have := heap_setCell_same _ qb 0 _ 29 (.slice (some ⟨g, 0, none⟩) p.length cap) hq'
    exact this
  · have hs := h.sus k hk
    exact ⟨by rw [Below.heap_setCell _ _ _ _ (e3 k hk), Below.heap_setCell _ _ _ _ (e1 k hk)]; exact hs.hS, by rw [Below.heap_setCell _ _ _ _ (e4 k hk), Below.heap_setCell _ _ _ _ (e2 k hk)]; exact hs.hC⟩
end

end Go.Proofs.Ybulkwzq
