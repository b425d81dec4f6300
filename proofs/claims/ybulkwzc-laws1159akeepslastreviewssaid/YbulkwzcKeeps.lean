import Derived.Test.YbulkwzcNothing
import Derived.LaidEqlPtr
namespace Go.Proofs.Ybulkwzc
open Go.RowKit

theorem run_neq_ptr_same {P : Program} (w : World) {tp te : TypeId} {j : TypeInfo} (a : Addr) (hp : P.underlying tp = some (.pointer te)) (hte : P.info? te = some j) :
    (binOp .neq tp (.pointer (some a)) (.pointer (some a))).run P w = .ok (.bool false) w := by
  have h : ∀ d : Nat, (Op.equalIn (d + 1) tp (.pointer (some a)) (.pointer (some a))).run P w = .ok true w := fun d => by
    simp [Op.equalIn, run_underlying hp, sizeOf, typeInfo, hte, run_sameAddr_same]
  simp only [binOp]
  simp [Op.equal, Op.maxDepth, h 9999]
theorem info31 : (Yba.prog.info? 31).map (fun i => (i.zero, i.size, i.bytes)) = some (some (.agg #[.pointer none, .slice none 0 0, .int .i64 0]), 3, 40) := by kernel_rfl
theorem neq28 (w : World) (a : Addr) : (binOp .neq 28 (.pointer (some a)) (.pointer (some a))).run Yba.prog w = .ok (.bool false) w := by
  obtain ⟨i0, hi, _⟩ := info_parts info31
  exact run_neq_ptr_same w a Yba.underlying28 hi
theorem neq66 (w : World) (a : Addr) : (binOp .neq 66 (.pointer (some a)) (.pointer (some a))).run Yba.prog w = .ok (.bool false) w := by
  obtain ⟨i0, hi, _⟩ := info_parts info69
  exact run_neq_ptr_same w a Yba.underlying66 hi
theorem neq59 (w : World) : (binOp .neq 59 (.slice none 0 0) (.slice none 0 0)).run Yba.prog w = .ok (.bool false) w := run_neq_slice_nil_any w 59 50 none 0 0 0 0 Yba.underlying59
theorem neq61 (w : World) : (binOp .neq 61 (.slice none 0 0) (.slice none 0 0)).run Yba.prog w = .ok (.bool false) w := run_neq_slice_nil_any w 61 149 none 0 0 0 0 Yba.underlying61

theorem kept_at (L : Int) (rs : List (Int × Nat × Nat)) (k : Nat) (h : k < rs.length) (he : rs[k].1 = L) :
    ∃ hj : (keptOf L (rs.take k)).length < (keptOf L rs).length, (keptOf L rs)[(keptOf L (rs.take k)).length] = rs[k] := by
  have e : keptOf L rs = keptOf L (rs.take k) ++ rs[k] :: keptOf L (rs.drop (k + 1)) := by
    conv => lhs; rw [← List.take_append_drop k rs, List.drop_eq_getElem_cons h]
    unfold keptOf
    rw [List.filter_append, List.filter_cons]
    simp [he]
  have hj : (keptOf L (rs.take k)).length < (keptOf L rs).length := by
    rw [e, List.length_append, List.length_cons]
    omega
  refine ⟨hj, ?_⟩
  have : (keptOf L rs)[(keptOf L (rs.take k)).length]? = some rs[k] := by
    rw [e, List.getElem?_append_right (Nat.le_refl _)]
    simp
  rw [List.getElem?_eq_getElem hj] at this
  exact Option.some.inj this

set_option maxHeartbeats 1000000 in
set_option maxRecDepth 100000 in
theorem keeps_small (ao : Option Addr) (b off len cap : Nat) (zs : List Int) (last addr nC nL : Int) (code : ByteArray) (w : World)
    (hao : 0 < len → ao = some ⟨b, off, none⟩) (hlen : len ≤ 1024)
    (hc : ∀ j, j < len → w.cell? ⟨b, off + j, none⟩ = some (.int .u8 (zs.getD j 0))) (hzr : ∀ j, 0 ≤ zs.getD j 0 ∧ zs.getD j 0 ≤ 255)
    (hl : 0 ≤ last ∧ last ≤ 255) (hC : 0 ≤ nC ∧ nC ≤ 255) (hL : 0 ≤ nL ∧ nL ≤ 255) :
    Calls Yba.prog 3 #[.slice ao len cap, .int .u8 last, .int .i64 addr, .string code, .int .u8 nC, .int .u8 nL] w fun e w' => e = .returned (.bool true) ∧ Below w.heap.size w w' := by
  have HB := build_any ao b off len cap zs last nC nL code w hao hlen hc hzr hl hC hL
  have hdec : decide ((1024 : Int) < (len : Int)) = false := by simp; omega
  have Hao : Hid _ := hao
  have Hc : Hid _ := hc
  have Hz : Hid _ := hzr
  clear hao hc hzr
  go_enter Yba.func3, Yba.ntmps3
  go_wp2_with fail
  refine HB.mono ?_
  rintro e w1 ⟨rfl, hB⟩
  clear HB
  go_wp2_with fail
  refine (logged_built (hB.later ?hb) hlen _ _).mono ?_
  case hb => exact (Below.refl _ _).alloc hB.size _
  rintro e w3 ⟨v3, rfl, hL3, hb3⟩
  have hN : w.heap.size + 5 ≤ w1.heap.size := hB.size
  have hb30 : Below w.heap.size w w3 := (hB.below.alloc (by omega) _).trans (hb3.mono (by omega))
  have hs3 : w.heap.size + 4 < w3.heap.size := by have := hb3.size; simp at this; omega
  clear hB hb3
  obtain ⟨a3, c3, rfl⟩ := own_shape hL3.own
  have q0 := hL3.c0
  have q13 := hL3.c13
  have q42 := hL3.c42
  have q43 := hL3.c43
  have q44 := hL3.c44
  have q46 := hL3.c46
  have n28 := neq28
  have n59 := neq59
  have n61 := neq61
  go_wp2
  clear q0 q13 q42 q43 q44 q46 n28 n59 n61 hdec
  go_loopw [17, 89] (fun j i wr => ∃ k : Nat, k ≤ len ∧ i = .int .i64 k ∧ j = .int .i64 ((keptOf (last % 4) ((revsOf zs len).take k)).length : Nat) ∧ Below w3.heap.size w3 wr)
    (fun _ i _ => len - (intOf i).toNat)
  case atStart => exact ⟨0, Nat.zero_le _, rfl, rfl, Below.refl _ _⟩
  case round =>
    obtain ⟨k, hk, rfl, rfl, hnx⟩ := hrel
    have h45 := (hL3.later hs3 hnx).c45
    have hsr : w.heap.size + 4 < wr.heap.size := by have := hnx.size; omega
    have hkl := keptOf_le (last % 4) ((revsOf zs len).take k)
    have hkt : ((revsOf zs len).take k).length ≤ k := List.length_take_le _ _
    by_cases hlt : k < len
    · obtain rfl := Hao.out (by omega)
      have hbB : b < w.heap.size := World.block_lt_of_cell? w _ (Hc.out 0 (by omega))
      have hck : wr.cell? ⟨b, off + k, none⟩ = some (.int .u8 (zs.getD k 0)) := (hnx.cell (p := ⟨b, off + k, none⟩) (by simp; omega)).trans ((hb30.cell (p := ⟨b, off + k, none⟩) hbB).trans (Hc.out k hlt))
      have hd := Hz.out k
      have hrk : k < (revsOf zs len).length := by rw [revsOf_length]; exact hlt
      have hS := keptOf_succ (last % 4) (revsOf zs len) k hrk
      have hAt := kept_at (last % 4) (revsOf zs len) k hrk
      rw [revsOf_get] at hS hAt
      simp only at hS hAt
      have hown := (hL3.later hs3 hnx).own
      obtain ⟨d, HD⟩ : ∃ d, zs.getD k 0 = d := ⟨_, rfl⟩
      rw [HD] at hck hd hS hAt
      clear HD hrk
      by_cases he : d % 4 = last % 4
      · rw [if_pos he] at hS
        obtain ⟨hj, hj2⟩ := hAt he
        have HS : Hid _ := hS
        have hne : (d % 4 != last % 4) = false := by simpa using he
        obtain ⟨g, rfl⟩ : ∃ g, a3 = some ⟨g, 0, none⟩ := by
          rcases hown.2 with ⟨h1, h2⟩ | ⟨g, cap, cur, h1, _⟩
          · omega
          · simp only [Value.slice.injEq] at h1
            exact ⟨g, h1.1⟩
        have hg0 : wr.cell? ⟨g, (keptOf (last % 4) ((revsOf zs len).take k)).length * 2, none⟩ = some (.int .i32 (last % 4)) := by
          rw [hown.cellAt _ (by omega), flat_even _ _ _ hj, hj2, ← he]
        have hg1 : wr.cell? ⟨g, (keptOf (last % 4) ((revsOf zs len).take k)).length * 2 + 1, none⟩ = some (.slice (some ⟨w.heap.size, k * 11, none⟩) 1 (len - k)) := by
          rw [hown.cellAt _ (by omega), flat_odd _ _ _ hj, hj2]
        have hgW : g < wr.heap.size := (hown.lt g rfl).2
        have n66 := neq66
        have hjI : ((keptOf (last % 4) ((revsOf zs len).take k)).length : Int) < ((keptOf (last % 4) (revsOf zs len)).length : Int) := by omega
        clear hS hj2 he hAt hown hL3 Hc Hz hb30 hN hbB
        go_wp2_with fail
        go_quiet (fail)
        go_wp2
        go_roundw
        case rel => exact ⟨k + 1, by omega, by go_num, by rw [HS.out, List.length_append]; go_num, below_drewN (hnx.alloc hnx.size _) _⟩
        case measure => simp [intOf]; omega
      · have hne : (d % 4 != last % 4) = true := by simpa using he
        rw [if_neg he] at hS
        have HS : Hid _ := hS
        clear hS hAt he hown hL3 Hc Hz hb30 hN hbB
        go_wp2
        go_roundw
        case rel => exact ⟨k + 1, by omega, by go_num, by rw [HS.out], hnx⟩
        case measure => simp [intOf]; omega
    · have hkk : k = len := by omega
      subst hkk
      rw [List.take_of_length_le (by rw [revsOf_length]; exact Nat.le_refl _)]
      have hbb : Below w.heap.size w wr := hb30.trans (hnx.mono (by omega))
      clear hL3 Hc Hz hb30 hN
      go_wp2
      go_ret
      exact ⟨rfl, hbb⟩

set_option maxHeartbeats 400000 in
theorem keeps_big (ao : Option Addr) (len cap : Nat) (last addr nC nL : Int) (code : ByteArray) (w : World) (_hlen : 1024 < (len : Int)) :
    Calls Yba.prog 3 #[.slice ao len cap, .int .u8 last, .int .i64 addr, .string code, .int .u8 nC, .int .u8 nL] w fun e w' => e = .returned (.bool true) ∧ Below w.heap.size w w' := by
  go_enter Yba.func3, Yba.ntmps3
  go_wp2
  go_ret
  exact ⟨rfl, Below.refl _ _⟩

end Go.Proofs.Ybulkwzc
