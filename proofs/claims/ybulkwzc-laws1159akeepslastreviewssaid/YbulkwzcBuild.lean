import Derived.Test.YbulkwzcParts
namespace Go.Proofs.Ybulkwzc
open Go.RowKit

/-- The reviews that 'zzs1159abuild' makes. -/
def revsOf (zs : List Int) (len : Nat) : List (Int × Nat × Nat) := (List.range len).map fun j => (zs.getD j 0 % 4, j * 11, len - j)

theorem revsOf_length (zs : List Int) (len : Nat) : (revsOf zs len).length = len := by simp [revsOf]
theorem revsOf_get (zs : List Int) (len j : Nat) (h : j < (revsOf zs len).length) : (revsOf zs len)[j] = (zs.getD j 0 % 4, j * 11, len - j) := by simp [revsOf]

def rowOut (n : Nat) : Array Value := madeCells zOut.cells (n * 11)
def rowRev (n : Nat) : Array Value := madeCells (Value.agg #[.int .i32 0, .slice none 0 0]).cells (n * 2)
def rowClose (n : Nat) : Array Value := madeCells zClose.cells (n * 14)
def rowTrans (n : Nat) : Array Value := madeCells zTrans.cells (n * 3)

theorem mkOut (n : Nat) (h : n ≤ 1024) (w : World) : (Instr.makeSlice 24 (.int .i64 (n : Int)) (.int .i64 (n : Int))).run Yba.prog w = .ok (.slice (some ⟨w.heap.size, 0, none⟩) n n) (w.alloc (.cells (rowOut n) 69)) := by
  obtain ⟨i0, hi, hz0, hz1, hz2⟩ := info_parts info69
  have := run_make (P := Yba.prog) w 24 69 i0 zOut Yba.underlying24 hi hz0 .i64 .i64 (n : Int) (n : Int) (by omega) (Int.le_refl _) (by rw [hz2]; omega) (by omega)
  simpa [hz1, rowOut] using this
theorem mkRev (n : Nat) (h : n ≤ 1024) (w : World) : (Instr.makeSlice 60 (.int .i64 (n : Int)) (.int .i64 (n : Int))).run Yba.prog w = .ok (.slice (some ⟨w.heap.size, 0, none⟩) n n) (w.alloc (.cells (rowRev n) 65)) := by
  obtain ⟨i0, hi, hz0, hz1, hz2⟩ := info_parts info65
  have := run_make (P := Yba.prog) w 60 65 i0 _ Yba.underlying60 hi hz0 .i64 .i64 (n : Int) (n : Int) (by omega) (Int.le_refl _) (by rw [hz2]; omega) (by omega)
  simpa [hz1, rowRev] using this
theorem mkClose (n : Int) (h0 : 0 ≤ n) (h : n ≤ 1024) (w : World) : (Instr.makeSlice 59 (.int .i64 n) (.int .i64 n)).run Yba.prog w = .ok (.slice (some ⟨w.heap.size, 0, none⟩) n.toNat n.toNat) (w.alloc (.cells (rowClose n.toNat) 50)) := by
  obtain ⟨i0, hi, hz0, hz1, hz2⟩ := info_parts info50
  have := run_make (P := Yba.prog) w 59 50 i0 _ Yba.underlying59 hi hz0 .i64 .i64 n n h0 (Int.le_refl _) (by rw [hz2]; omega) (by omega)
  simpa [hz1, rowClose] using this
theorem mkTrans (n : Int) (h0 : 0 ≤ n) (h : n ≤ 1024) (w : World) : (Instr.makeSlice 61 (.int .i64 n) (.int .i64 n)).run Yba.prog w = .ok (.slice (some ⟨w.heap.size, 0, none⟩) n.toNat n.toNat) (w.alloc (.cells (rowTrans n.toNat) 149)) := by
  obtain ⟨i0, hi, hz0, hz1, hz2⟩ := info_parts info149
  have := run_make (P := Yba.prog) w 61 149 i0 _ Yba.underlying61 hi hz0 .i64 .i64 n n h0 (Int.le_refl _) (by rw [hz2]; omega) (by omega)
  simpa [hz1, rowTrans] using this

theorem rowRev_size (n : Nat) : (rowRev n).size = n * 2 := size_madeCells _ _

theorem take_two (xs : List Value) (m : Nat) (a b : Value) (h : m + 1 < xs.length) : ((xs.set m a).set (m + 1) b).take (m + 2) = xs.take m ++ [a, b] := by
  apply List.ext_getElem?
  intro j
  by_cases h1 : j < m
  · rw [List.getElem?_append_left (by simp; omega), List.getElem?_take, List.getElem?_take, if_pos (by omega), if_pos h1]
    rw [List.getElem?_set_ne (by omega), List.getElem?_set_ne (by omega)]
  · rw [List.getElem?_append_right (by simp; omega)]
    have hl : (xs.take m).length = m := by simp; omega
    rw [hl]
    by_cases h2 : j = m
    · subst h2
      rw [List.getElem?_take, if_pos (by omega), List.getElem?_set_ne (by omega), List.getElem?_set_self (by omega)]
      simp
    · by_cases h3 : j = m + 1
      · subst h3
        rw [List.getElem?_take, if_pos (by omega), List.getElem?_set_self (by simp; omega)]
        simp
      · rw [List.getElem?_take, if_neg (by omega)]
        symm
        apply List.getElem?_eq_none
        simp
        omega

/-- The world inside the loop, k reviews laid. -/
structure Mid (N len k : Nat) (zs : List Int) (w wr : World) (xs : List Value) : Prop where
  own : wr.ownsRow (N + 1) 65 2 (.slice (some ⟨N + 1, 0, none⟩) len len) len xs
  done : xs.take (k * 2) = flat N ((revsOf zs len).take k)
  size : wr.heap.size = N + 2
  below : Below N w wr

theorem Mid.start (len : Nat) (zs : List Int) (w : World) (h : len ≤ 1024) : Mid w.heap.size len 0 zs w ((w.alloc (.cells (rowOut len) 69)).alloc (.cells (rowRev len) 65)) (rowRev len).toList := by
  refine ⟨?_, by simp [flat], by simp, ((Below.refl _ _).alloc (Nat.le_refl _) _).alloc (by simp) _⟩
  have := World.ownsRow_lit (base := w.heap.size + 1) (e := 65) (size := 2) (w.alloc (.cells (rowOut len) 69)) (rowRev len) len (by simp) (by unfold maxLen; omega) (rowRev_size len)
  simpa using this

theorem Mid.step {N len k : Nat} {zs : List Int} {w wr : World} {xs : List Value} (h : Mid N len k zs w wr xs) (hk : k < len) :
    Mid N len (k + 1) zs w ((wr.setCell ⟨N + 1, k * 2, none⟩ (.int .i32 (zs.getD k 0 % 4))).setCell ⟨N + 1, k * 2 + 1, none⟩ (.slice (some ⟨N, k * 11, none⟩) 1 (len - k)))
      ((xs.set (k * 2) (.int .i32 (zs.getD k 0 % 4))).set (k * 2 + 1) (.slice (some ⟨N, k * 11, none⟩) 1 (len - k))) := by
  have hl := h.own.1
  refine ⟨((h.own.stored _ _).1.stored _ _).1, ?_, by simp [h.size], (h.below.setCell (by simp) _).setCell (by simp) _⟩
  have e : (k + 1) * 2 = k * 2 + 2 := by omega
  rw [e, take_two _ _ _ _ (by omega), h.done, List.take_succ_eq_append_getElem (by rw [revsOf_length]; exact hk), flat_append, revsOf_get]
  rfl

theorem Mid.last {N len : Nat} {zs : List Int} {w wr : World} {xs : List Value} (h : Mid N len len zs w wr xs) : xs = flat N (revsOf zs len) := by
  have := h.done
  rw [List.take_of_length_le (by rw [h.own.1]; exact Nat.le_refl _), List.take_of_length_le (by rw [revsOf_length]; exact Nat.le_refl _)] at this
  exact this

theorem Mid.cells {N len k : Nat} {zs : List Int} {w wr : World} {xs : List Value} (h : Mid N len k zs w wr xs) (hk : k < len) :
    (∃ u, wr.cell? ⟨N + 1, k * 2, none⟩ = some u) ∧ (∃ u, wr.cell? ⟨N + 1, k * 2 + 1, none⟩ = some u) ∧ ∀ o, wr.frozen? ⟨N + 1, o, none⟩ = false := by
  have hl := h.own.1
  refine ⟨⟨xs[k * 2], ?_⟩, ⟨xs[k * 2 + 1], ?_⟩, fun o => h.own.frozenAt o⟩
  · rw [h.own.cellAt _ (by omega), List.getElem?_eq_getElem (by omega)]
  · rw [h.own.cellAt _ (by omega), List.getElem?_eq_getElem (by omega)]

/-- The product's cells as 'zzs1159abuild' lays them. -/
def prodCells (code : ByteArray) (d : Int) (vC vR vL : Value) : Array Value :=
  #[Value.string code, Value.int IntKind.i32 0, Value.slice none 0 0, Value.slice none 0 0, Value.pointer none,
            Value.pointer none, Value.slice none 0 0, Value.pointer none, Value.int IntKind.i64 0, Value.pointer none,
            Value.int IntKind.i32 0, Value.slice none 0 0, Value.slice none 0 0, Value.int IntKind.i32 d,
            Value.int IntKind.i64 0, Value.pointer none, Value.int IntKind.i32 0, Value.slice none 0 0,
            Value.slice none 0 0, Value.int IntKind.i64 0, Value.pointer none, Value.int IntKind.i32 0,
            Value.slice none 0 0, Value.int IntKind.i64 0, Value.pointer none, Value.int IntKind.i32 0,
            Value.slice none 0 0, Value.slice none 0 0, Value.int IntKind.i32 0, Value.slice none 0 0,
            Value.int IntKind.i64 0, Value.pointer none, Value.int IntKind.i32 0, Value.int IntKind.i32 0,
            Value.int IntKind.i64 0, Value.pointer none, Value.int IntKind.i32 0, Value.slice none 0 0,
            Value.int IntKind.i64 0, Value.slice none 0 0, Value.pointer none, Value.slice none 0 0, Value.pointer none,
            Value.int IntKind.i64 7, vC, vR, vL]

/-- What 'zzs1159abuild' leaves: the row of reviews at block N + 1, the product at block N + 4. -/
structure Built (N len : Nat) (zs : List Int) (code : ByteArray) (d : Int) (w w' : World) : Prop where
  own : w'.ownsRow (N + 1) 65 2 (.slice (some ⟨N + 1, 0, none⟩) len len) len (flat N (revsOf zs len))
  c0 : w'.cell? ⟨N + 4, 0, none⟩ = some (.string code)
  c13 : w'.cell? ⟨N + 4, 13, none⟩ = some (.int .i32 d)
  c42 : ∃ u, w'.cell? ⟨N + 4, 42, none⟩ = some u
  c43 : ∃ u, w'.cell? ⟨N + 4, 43, none⟩ = some u
  c44 : ∃ u, w'.cell? ⟨N + 4, 44, none⟩ = some u
  c45 : w'.cell? ⟨N + 4, 45, none⟩ = some (.slice (some ⟨N + 1, 0, none⟩) len len)
  c46 : ∃ u, w'.cell? ⟨N + 4, 46, none⟩ = some u
  fz : ∀ o, w'.frozen? ⟨N + 4, o, none⟩ = false
  size : N + 5 ≤ w'.heap.size
  below : Below N w w'

theorem built_of {N len : Nat} {zs : List Int} {w wr : World} {xs : List Value} (h : Mid N len len zs w wr xs) (code : ByteArray) (d : Int) (vC vL : Value) (o1 o2 : Obj) :
    Built N len zs code d w (((wr.alloc o1).alloc o2).alloc (.cells (prodCells code d vC (.slice (some ⟨N + 1, 0, none⟩) len len) vL) 63)).drew := by
  have hs : ((wr.alloc o1).alloc o2).heap.size = N + 4 := by simp [h.size]
  have hh : (((wr.alloc o1).alloc o2).alloc (.cells (prodCells code d vC (.slice (some ⟨N + 1, 0, none⟩) len len) vL) 63)).drew.heap[N + 4]? = some (.cells (prodCells code d vC (.slice (some ⟨N + 1, 0, none⟩) len len) vL) 63) := by
    have := heap_alloc_new ((wr.alloc o1).alloc o2) (.cells (prodCells code d vC (.slice (some ⟨N + 1, 0, none⟩) len len) vL) 63)
    rw [hs] at this
    exact this
  have cell : ∀ o u, (prodCells code d vC (.slice (some ⟨N + 1, 0, none⟩) len len) vL)[o]? = some u → (((wr.alloc o1).alloc o2).alloc (.cells (prodCells code d vC (.slice (some ⟨N + 1, 0, none⟩) len len) vL) 63)).drew.cell? ⟨N + 4, o, none⟩ = some u := by
    intro o u hu
    rw [cell_of_row _ (N + 4) o _ 63 (0, 0) hh, hu]
  refine ⟨?_, cell 0 _ rfl, cell 13 _ rfl, ⟨_, cell 42 _ rfl⟩, ⟨_, cell 43 _ rfl⟩, ⟨_, cell 44 _ rfl⟩, cell 45 _ rfl, ⟨_, cell 46 _ rfl⟩, fun o => frozen_of_row _ (N + 4) o _ 63 hh, by simp [h.size], ?_⟩
  · rw [← h.last]
    exact ((h.own.alloc _).alloc _).alloc _
  · have h0 : N ≤ wr.heap.size := by rw [h.size]; omega
    exact (((h.below.alloc h0 _).alloc (by simp; omega) _).alloc (by simp; omega) _).drew

theorem own_below {B base : Nat} {e : TypeId} {size : Nat} {v : Value} {n : Nat} {xs : List Value} {w w' : World} (h : w.ownsRow base e size v n xs) (hb : Below B w w') (hlt : ∀ k, v.ownBlock = some k → k < B) : w'.ownsRow base e size v n xs := by
  refine ⟨h.1, ?_⟩
  rcases h.2 with hn | ⟨g, cap, cur, rfl, hb', hgg, rest⟩
  · exact .inl hn
  · refine .inr ⟨g, cap, cur, rfl, hb', ?_, rest⟩
    rw [hb.block g (hlt g rfl)]
    exact hgg

theorem Built.later {N len : Nat} {zs : List Int} {code : ByteArray} {d : Int} {w w1 w2 : World} (h : Built N len zs code d w w1) (hb : Below (N + 5) w1 w2) : Built N len zs code d w w2 := by
  have c : ∀ o, w2.cell? ⟨N + 4, o, none⟩ = w1.cell? ⟨N + 4, o, none⟩ := fun o => hb.cell (p := ⟨N + 4, o, none⟩) (by simp)
  refine ⟨own_below h.own hb (fun k hk => by simp [Value.ownBlock] at hk; omega), (c _).trans h.c0, (c _).trans h.c13, ?_, ?_, ?_, (c _).trans h.c45, ?_, fun o => (hb.frozen (p := ⟨N + 4, o, none⟩) (by simp)).trans (h.fz o), Nat.le_trans h.size hb.size, h.below.trans (hb.mono (by omega))⟩
  · obtain ⟨u, hu⟩ := h.c42; exact ⟨u, (c _).trans hu⟩
  · obtain ⟨u, hu⟩ := h.c43; exact ⟨u, (c _).trans hu⟩
  · obtain ⟨u, hu⟩ := h.c44; exact ⟨u, (c _).trans hu⟩
  · obtain ⟨u, hu⟩ := h.c46; exact ⟨u, (c _).trans hu⟩

theorem ret_ptr {n m : Nat} {v : Value} (h : n = m) : Ending.returned (.tuple #[.pointer (some ⟨n, 0, none⟩), v]) = Ending.returned (.tuple #[.pointer (some ⟨m, 0, none⟩), v]) := by rw [h]

set_option maxHeartbeats 400000 in
theorem build_any (ao : Option Addr) (b off len cap : Nat) (zs : List Int) (last nC nL : Int) (code : ByteArray) (w : World)
    (hao : 0 < len → ao = some ⟨b, off, none⟩) (hlen : len ≤ 1024)
    (hc : ∀ j, j < len → w.cell? ⟨b, off + j, none⟩ = some (.int .u8 (zs.getD j 0))) (hzr : ∀ j, 0 ≤ zs.getD j 0 ∧ zs.getD j 0 ≤ 255)
    (hl : 0 ≤ last ∧ last ≤ 255) (hC : 0 ≤ nC ∧ nC ≤ 255) (hL : 0 ≤ nL ∧ nL ≤ 255) :
    Calls Yba.prog 5 #[.slice ao len cap, .int .u8 last, .string code, .int .u8 nC, .int .u8 nL] w fun e w' => e = .returned (.tuple #[.pointer (some ⟨w.heap.size + 4, 0, none⟩), .slice (some ⟨w.heap.size, 0, none⟩) len len]) ∧ Built w.heap.size len zs code (last % 4) w w' := by
  have k1 := mkOut len hlen
  have k2 := mkRev len hlen
  go_enter Yba.func5, Yba.ntmps5
  go_wp2
  go_loopw [25] (fun i wr => ∃ k xs, k ≤ len ∧ i = .int .i64 (k : Nat) ∧ Mid w.heap.size len k zs w wr xs) (fun i _ => len - (intOf i).toNat)
  case atStart => exact ⟨0, _, Nat.zero_le _, rfl, Mid.start len zs w hlen⟩
  case round =>
    obtain ⟨k, xs, hk, rfl, hm⟩ := hrel
    clear k1 k2
    by_cases hlt : k < len
    · obtain rfl := hao (by omega)
      have hbB : b < w.heap.size := World.block_lt_of_cell? w _ (hc 0 (by omega))
      have hck : wr.cell? ⟨b, off + k, none⟩ = some (.int .u8 (zs.getD k 0)) := (hm.below.cell (by exact hbB)).trans (hc k hlt)
      obtain ⟨⟨u0, hu0⟩, ⟨u1, hu1⟩, hfz⟩ := hm.cells hlt
      have hd := hzr k
      obtain ⟨d, HD⟩ : ∃ d, zs.getD k 0 = d := ⟨_, rfl⟩
      have hst := hm.step hlt
      rw [HD] at hck hd hst
      clear HD
      go_wp2
      go_roundw
      case rel => exact ⟨k + 1, _, by omega, by go_num, hst⟩
      case measure => simp [intOf]; omega
    · have hkk : k = len := by omega
      subst hkk
      have k3 := mkClose (nC % 4) (by omega) (by omega)
      have k4 := mkTrans (nL % 4) (by omega) (by omega)
      have hm' : Hid (Mid w.heap.size k k zs w wr xs) := hm
      clear hm hao hc hzr
      go_wp2_with fail
      go_region
      all_goals go_wp2
      all_goals go_ret2
      all_goals exact ⟨ret_ptr (by rw [hm'.out.size]), built_of hm'.out code (last % 4) _ _ _ _⟩

end Go.Proofs.Ybulkwzc
