import Derived.Test.YbulkwzcRows
import Derived.WalkKit
import Derived.WalkSpells
import Derived.WalkLawsBesides
import Derived.Deep.QuietTactic
import Derived.BigQuiet
namespace Go.Proofs.Ybulkwzc
open Go.RowKit

/-- A review as it lies in memory: its date, where its one outcome lies in the row 'base', and that slice's capacity. -/
def flat (bb : Nat) : List (Int × Nat × Nat) → List Value
  | [] => []
  | r :: rs => .int .i32 r.1 :: .slice (some ⟨bb, r.2.1, none⟩) 1 r.2.2 :: flat bb rs

theorem flat_length (bb : Nat) (rs : List (Int × Nat × Nat)) : (flat bb rs).length = rs.length * 2 := by
  induction rs with
  | nil => rfl
  | cons r rs ih => simp only [flat, List.length_cons, ih]; omega

theorem flat_append (bb : Nat) (xs ys : List (Int × Nat × Nat)) : flat bb (xs ++ ys) = flat bb xs ++ flat bb ys := by
  induction xs with
  | nil => rfl
  | cons r rs ih => simp only [List.cons_append, flat, ih]

theorem flat_even (bb : Nat) (rs : List (Int × Nat × Nat)) (k : Nat) (h : k < rs.length) : (flat bb rs)[k * 2]? = some (.int .i32 rs[k].1) := by
  induction rs generalizing k with
  | nil => simp at h
  | cons r rs ih =>
    cases k with
    | zero => rfl
    | succ k =>
      have : (k + 1) * 2 = k * 2 + 1 + 1 := by omega
      rw [this]
      simp only [flat, List.getElem?_cons_succ, List.getElem_cons_succ]
      exact ih k (by simpa using h)

theorem flat_odd (bb : Nat) (rs : List (Int × Nat × Nat)) (k : Nat) (h : k < rs.length) : (flat bb rs)[k * 2 + 1]? = some (.slice (some ⟨bb, rs[k].2.1, none⟩) 1 rs[k].2.2) := by
  induction rs generalizing k with
  | nil => simp at h
  | cons r rs ih =>
    cases k with
    | zero => rfl
    | succ k =>
      have : (k + 1) * 2 + 1 = k * 2 + 1 + 1 + 1 := by omega
      rw [this]
      simp only [flat, List.getElem?_cons_succ, List.getElem_cons_succ]
      exact ih k (by simpa using h)

/-- The reviews that are not of the last close, of the first k. -/
def toLog (L : Int) (rs : List (Int × Nat × Nat)) : List (Int × Nat × Nat) := rs.filter fun r => r.1 != L
/-- The reviews of the last close, of the first k. -/
def keptOf (L : Int) (rs : List (Int × Nat × Nat)) : List (Int × Nat × Nat) := rs.filter fun r => r.1 == L

theorem toLog_le (L : Int) (rs : List (Int × Nat × Nat)) : (toLog L rs).length ≤ rs.length := List.length_filter_le _ _
theorem keptOf_le (L : Int) (rs : List (Int × Nat × Nat)) : (keptOf L rs).length ≤ rs.length := List.length_filter_le _ _

theorem toLog_succ (L : Int) (rs : List (Int × Nat × Nat)) (k : Nat) (h : k < rs.length) :
    toLog L (rs.take (k + 1)) = if rs[k].1 = L then toLog L (rs.take k) else toLog L (rs.take k) ++ [rs[k]] := by
  rw [List.take_succ_eq_append_getElem h]
  unfold toLog
  rw [List.filter_append]
  by_cases e : rs[k].1 = L <;> simp [e]

theorem keptOf_succ (L : Int) (rs : List (Int × Nat × Nat)) (k : Nat) (h : k < rs.length) :
    keptOf L (rs.take (k + 1)) = if rs[k].1 = L then keptOf L (rs.take k) ++ [rs[k]] else keptOf L (rs.take k) := by
  rw [List.take_succ_eq_append_getElem h]
  unfold keptOf
  rw [List.filter_append]
  by_cases e : rs[k].1 = L <;> simp [e]

theorem info65 : (Yba.prog.info? 65).map (fun i => (i.zero, i.size, i.bytes)) = some (some (.agg #[.int .i32 0, .slice none 0 0]), 2, 32) := by kernel_rfl
def zOut : Value := .agg #[.string ⟨#[]⟩, .string ⟨#[]⟩, .int .i64 0, .pointer none, .int .i32 0, .int .i64 0, .pointer none, .int .i32 0, .int .i64 0, .pointer none, .int .i32 0]
theorem info69 : (Yba.prog.info? 69).map (fun i => (i.zero, i.size, i.bytes)) = some (some zOut, 11, 104) := by kernel_rfl
def zClose : Value := .agg #[.int .i32 0, .int .i64 0, .pointer none, .int .i32 0, .slice none 0 0, .slice none 0 0, .int .i64 0, .pointer none, .int .i32 0, .slice none 0 0, .int .i64 0, .pointer none, .int .i32 0, .slice none 0 0]
theorem info50 : (Yba.prog.info? 50).map (fun i => (i.zero, i.size, i.bytes)) = some (some zClose, 14, 176) := by kernel_rfl
def zTrans : Value := .agg #[.int .i32 0, .string ⟨#[]⟩, .slice none 0 0]
theorem info149 : (Yba.prog.info? 149).map (fun i => (i.zero, i.size, i.bytes)) = some (some zTrans, 3, 48) := by kernel_rfl

theorem own_drewN {w : World} {base : Nat} {e : TypeId} {size : Nat} {v : Value} {n : Nat} {xs : List Value} (h : w.ownsRow base e size v n xs) (q : Nat) : (w.drewN q).ownsRow base e size v n xs := h

/-- An owned slice is a slice of that many elements. -/
theorem own_shape {w : World} {base : Nat} {e : TypeId} {size : Nat} {v : Value} {n : Nat} {xs : List Value} (h : w.ownsRow base e size v n xs) : ∃ a c, v = .slice a n c := by
  rcases h.2 with ⟨rfl, rfl⟩ | ⟨g, cap, cur, rfl, _⟩
  · exact ⟨none, 0, rfl⟩
  · exact ⟨_, _, rfl⟩

theorem two_oneCell (a : Int) (x : Option Addr) (n c : Nat) : ∀ u ∈ [Value.int .i32 a, .slice x n c], u.oneCell' = true := by
  intro u hu
  simp at hu
  rcases hu with rfl | rfl <;> rfl

theorem cell_two_q (w : World) (a b : Value) (t : TypeId) (q n : Nat) (hn : n = w.heap.size) : ∀ j u, [a, b][j]? = some u → ((w.alloc (.cells #[a, b] t)).drewN q).cell? ((⟨n, 0, none⟩ : Addr).add j) = some u := by
  subst hn
  exact cell_two_new w a b t

end Go.Proofs.Ybulkwzc
