import Derived.Test.YbulkwzqTime
namespace Go.Proofs.Ybulkwzq
open Go.RowKit

theorem bcell {B : Nat} {W w1 : World} (hb : Below B W w1) : (∀ b o, b < B → w1.cell? ⟨b, o, none⟩ = W.cell? ⟨b, o, none⟩) ∧ (∀ b o, b < B → w1.frozen? ⟨b, o, none⟩ = W.frozen? ⟨b, o, none⟩) :=
  ⟨fun b o h => hb.cell (p := ⟨b, o, none⟩) h, fun b o h => hb.frozen (p := ⟨b, o, none⟩) h⟩

/-- A commit's cells: its committer's time is all that is not zero. -/
def comArr (n s : Int) : Array Value :=
  #[.int .u8 0, .int .u8 0, .int .u8 0, .int .u8 0, .int .u8 0, .int .u8 0, .int .u8 0, .int .u8 0, .int .u8 0, .int .u8 0, .int .u8 0, .int .u8 0, .int .u8 0, .int .u8 0, .int .u8 0, .int .u8 0, .int .u8 0, .int .u8 0, .int .u8 0, .int .u8 0,
    .slice none 0 0, .string ⟨#[]⟩, .string ⟨#[]⟩, .int .u64 0, .int .i64 0, .pointer none, .string ⟨#[]⟩, .string ⟨#[]⟩, .int .u64 n, .int .i64 s, .pointer none, .slice none 0 0]

/-- A suspect's cells: its commit and its number are all that is not zero. -/
def susArr (C : Nat) (seq : Int) : Array Value :=
  #[.int .u8 0, .int .u8 0, .int .u8 0, .int .u8 0, .int .u8 0, .int .u8 0, .int .u8 0, .int .u8 0, .int .u8 0, .int .u8 0, .int .u8 0, .int .u8 0, .int .u8 0, .int .u8 0, .int .u8 0, .int .u8 0, .int .u8 0, .int .u8 0, .int .u8 0, .int .u8 0,
    .pointer (some ⟨C, 0, none⟩), .string ⟨#[]⟩, .int .u32 0,
    .int .u8 0, .int .u8 0, .int .u8 0, .int .u8 0, .int .u8 0, .int .u8 0, .int .u8 0, .int .u8 0, .int .u8 0, .int .u8 0, .int .u8 0, .int .u8 0, .int .u8 0, .int .u8 0, .int .u8 0, .int .u8 0, .int .u8 0, .int .u8 0, .int .u8 0, .int .u8 0,
    .slice none 0 0, .slice none 0 0, .int .i64 seq, .int .i64 0]

/-- The suspect at block S, of time d and number seq, its commit at block C. -/
structure Sus (S C : Nat) (d seq : Int) (w : World) : Prop where
  hS : w.heap[S]? = some (.cells (susArr C seq) 49 (0, 0))
  hC : w.heap[C]? = some (.cells (comArr (d % 1000000000) (d / 1000000000)) 60 (0, 0))

theorem Sus.later {B S C : Nat} {d seq : Int} {w w' : World} (h : Sus S C d seq w) (hb : Below B w w') (hS : S < B) (hC : C < B) : Sus S C d seq w' :=
  ⟨(hb.block S hS).trans h.hS, (hb.block C hC).trans h.hC⟩

theorem Sus.cellS {S C : Nat} {d seq : Int} {w : World} (h : Sus S C d seq w) (o : Nat) (u : Value) (hu : (susArr C seq)[o]? = some u) : w.cell? ⟨S, o, none⟩ = some u := by
  rw [cell_of_row w S o _ 49 (0, 0) h.hS, hu]
theorem Sus.cellC {S C : Nat} {d seq : Int} {w : World} (h : Sus S C d seq w) (o : Nat) (u : Value) (hu : (comArr (d % 1000000000) (d / 1000000000))[o]? = some u) : w.cell? ⟨C, o, none⟩ = some u := by
  rw [cell_of_row w C o _ 60 (0, 0) h.hC, hu]

theorem sus_made {w w1 : World} (d seq : Int) (hb : Below (w.heap.size + 1) (w.alloc (.cells (comArr 0 0) 60)) w1) (hs : w.heap.size < w1.heap.size) :
    Sus w1.heap.size w.heap.size d seq ((((w1.setCell ⟨w.heap.size, 28, none⟩ (.int .u64 (d % 1000000000))).setCell ⟨w.heap.size, 29, none⟩ (.int .i64 (d / 1000000000))).setCell ⟨w.heap.size, 30, none⟩ (.pointer none)).alloc (.cells (susArr w.heap.size seq) 49)) := by
  have h0 : w1.heap[w.heap.size]? = some (.cells (comArr 0 0) 60 (0, 0)) := (hb.block w.heap.size (Nat.lt_succ_self _)).trans (heap_alloc_new w _)
  have h1 := heap_setCell_same w1 w.heap.size 28 _ 60 (.int .u64 (d % 1000000000)) h0
  have h2 := heap_setCell_same _ w.heap.size 29 _ 60 (.int .i64 (d / 1000000000)) h1
  have h3 := heap_setCell_same _ w.heap.size 30 _ 60 (.pointer none) h2
  have hsz : (((w1.setCell ⟨w.heap.size, 28, none⟩ (.int .u64 (d % 1000000000))).setCell ⟨w.heap.size, 29, none⟩ (.int .i64 (d / 1000000000))).setCell ⟨w.heap.size, 30, none⟩ (.pointer none)).heap.size = w1.heap.size := by simp
  refine ⟨?_, ?_⟩
  · have := heap_alloc_new (((w1.setCell ⟨w.heap.size, 28, none⟩ (.int .u64 (d % 1000000000))).setCell ⟨w.heap.size, 29, none⟩ (.int .i64 (d / 1000000000))).setCell ⟨w.heap.size, 30, none⟩ (.pointer none)) (.cells (susArr w.heap.size seq) 49)
    rw [hsz] at this
    exact this
  · rw [Below.heap_alloc _ _ _ (by rw [hsz]; exact hs)]
    exact h3

set_option maxHeartbeats 400000 in
/-- 'zzs1160bsus(d, seq)': a new suspect; nothing that was there has turned. -/
theorem sus_any (d seq : Int) (w : World) (h0 : -9223372036854775808 ≤ d) (h1 : d ≤ 9223372036854775807) :
    Calls Yba.prog 5 #[.int .i64 d, .int .i64 seq] w fun e w' => ∃ S C, e = .returned (.pointer (some ⟨S, 0, none⟩)) ∧ w.heap.size ≤ C ∧ C < S ∧ S < w'.heap.size ∧ Sus S C d seq w' ∧ Below w.heap.size w w' := by
  have hA := fun w => add_any d w h0 h1
  go_enter Yba.func5, Yba.ntmps5
  go_wp2_with fail
  refine (hA _).mono ?_
  rintro e w1 ⟨rfl, hb⟩
  clear hA
  have hs : w.heap.size < w1.heap.size := by have := hb.size; simp at this; omega
  have hb' : Below (w.heap.size + 1) (w.alloc (.cells (comArr 0 0) 60)) w1 := hb.mono (by simp)
  have hm := sus_made d seq hb' hs
  have hbb : Below w.heap.size w w1 := ((Below.refl _ _).alloc (Nat.le_refl _) _).trans (hb'.mono (by omega))
  obtain ⟨hc, hf⟩ := bcell hb
  clear hb hb'
  go_wp2
  go_ret
  refine ⟨w1.heap.size, w.heap.size, rfl, Nat.le_refl _, hs, by simp, hm, ?_⟩
  exact (((hbb.setCell (Nat.le_refl _) _).setCell (Nat.le_refl _) _).setCell (Nat.le_refl _) _).alloc (by simp; omega) _

/-- The two worlds part in their count of draws alone. -/
def Same (w' w : World) : Prop := w'.heap = w.heap ∧ w'.os = w.os ∧ w'.tape = w.tape ∧ w'.output = w.output
theorem Same.below {w' w x : World} {B : Nat} (h : Same w' w) (hb : Below B x w) : Below B x w' :=
  ⟨h.2.1.trans hb.os, h.2.2.1.trans hb.tape, h.2.2.2.trans hb.output, by rw [h.1]; exact hb.size, fun k hk => by rw [h.1]; exact hb.block k hk⟩
theorem Same.symm {w' w : World} (h : Same w' w) : Same w w' := ⟨h.1.symm, h.2.1.symm, h.2.2.1.symm, h.2.2.2.symm⟩

end Go.Proofs.Ybulkwzq
