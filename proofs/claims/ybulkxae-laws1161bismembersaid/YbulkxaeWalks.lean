import Derived.Test.YbulkxaeMath
namespace Go.Proofs.Ybulkxae
open Go.RowKit Go.Maps Go.ChangeMaps

theorem key9 : Keyed Yba.prog 9 := string_keyed Yba.underlying9
theorem zero9 (w : World) : (zeroValue 9).run Yba.prog w = .ok (.string ⟨#[]⟩) w := by kernel_rfl
theorem mkMap (n : Int) (w : World) : (Instr.makeMap 51 (some (.int .i64 n))).run Yba.prog w = .ok (.map (some w.heap.size)) (w.alloc (.map #[] 0)) := by kernel_rfl

/-- What the walks are told of a slice of strings: its address where it has an element; its cells. -/
structure Strs (ao : Option Addr) (b off len : Nat) (kf : Nat → ByteArray) (w : World) : Prop where
  at_ : 0 < len → ao = some ⟨b, off, none⟩
  cell : ∀ j, j < len → w.cell? ⟨b, off + j, none⟩ = some (.string (kf j))
  size : ∀ j, (kf j).size ≤ maxLen

theorem Strs.later {ao : Option Addr} {b off len : Nat} {kf : Nat → ByteArray} {w w' : World} {B : Nat} (h : Strs ao b off len kf w) (hb : Below B w w') (hB : w.heap.size ≤ B) : Strs ao b off len kf w' :=
  ⟨h.at_, fun j hj => (hb.cell (p := ⟨b, off + j, none⟩) (by have := World.block_lt_of_cell? w _ (h.cell j hj); simp at this ⊢; omega)).trans (h.cell j hj), h.size⟩

set_option maxHeartbeats 400000 in
theorem class_nil (m : ByteArray) (w : World) :
    Calls Yba.prog 5 #[.pointer none, .string m] w fun e w' => e = .returned (.tuple #[.string ⟨#[]⟩, .bool false]) ∧ w' = w := by
  go_enter Yba.func5, Yba.ntmps5
  go_wp2
  go_ret2
  exact ⟨rfl, rfl⟩

set_option maxHeartbeats 400000 in
theorem class_some (M mb n : Nat) (D : DataW Unit) (m : ByteArray) (w : World) (hM : w.cell? ⟨M, 0, none⟩ = some (.map (some mb))) (hown : w.ownsMap Yba.prog 9 (plainElem Yba.prog 9) mb n D) (hm : m.size ≤ maxLen) :
    Calls Yba.prog 5 #[.pointer (some ⟨M, 0, none⟩), .string m] w fun e w' => ∃ s, e = .returned (.tuple #[.string s, .bool (Maps.has D (keyL m))]) ∧ D.atKey (keyL m) (strD ⟨#[]⟩) = strD s ∧ w' = w := by
  have hkey : keyOf Yba.prog 9 (.string m) = some (keyL m) := Go.WideMaps.keyOf_string_mk Yba.underlying9 hm
  obtain ⟨v, ps, hrun, hv⟩ := hown.look_ok key9 Yba.underlying51 (zero9 w) (plainElem_string Yba.underlying9 (by decide)) hkey
  obtain ⟨s, rfl, hs, _⟩ := plainElem_string_inv Yba.underlying9 hv
  have HS : Hid (D.atKey (keyL m) (strD ⟨#[]⟩) = strD s) := (Prod.mk.inj hs).1
  generalize Maps.has D (keyL m) = bb at hrun ⊢
  clear hs hv hown hkey
  go_enter Yba.func5, Yba.ntmps5
  go_wp2
  go_ret2
  exact ⟨s, rfl, HS.out, rfl⟩

set_option maxHeartbeats 400000 in
theorem pick_any (ao : Option Addr) (b off len cap : Nat) (kf : Nat → ByteArray) (m : ByteArray) (pk : Int) (w : World) (hk : Strs ao b off len kf w) (hlen : len ≤ 1024) (hm : m.size ≤ maxLen) (h0 : 0 ≤ pk) (h1 : pk ≤ 255) :
    Calls Yba.prog 7 #[.slice ao len cap, .string m, .int .u8 pk] w fun e w' => ∃ q : ByteArray, e = .returned (.string q) ∧ q.size ≤ maxLen ∧ w' = w := by
  by_cases hl : 0 < len
  · obtain rfl := hk.at_ hl
    by_cases hp : pk % 2 = 0
    · obtain ⟨i, hi⟩ : ∃ i : Nat, pk / 2 % (len : Int) = (i : Int) := ⟨(pk / 2 % (len : Int)).toNat, by rw [Int.toNat_of_nonneg (Int.emod_nonneg _ (by omega))]⟩
      have hil : i < len := by have := Int.emod_lt_of_pos (pk / 2) (show (0 : Int) < (len : Int) by omega); omega
      have hc := hk.cell i hil
      have hs := hk.size i
      have hb : (pk % 2 == 0) = true := by simpa using hp
      have hlI : (0 : Int) < (len : Int) := by omega
      have hiI : (i : Int) < (len : Int) := by omega
      clear hk hp
      go_enter Yba.func7, Yba.ntmps7
      go_wp2
      go_ret
      exact ⟨_, rfl, hs, rfl⟩
    · have hb : (pk % 2 == 0) = false := by simpa using hp
      go_enter Yba.func7, Yba.ntmps7
      go_wp2
      go_ret
      exact ⟨m, rfl, hm, rfl⟩
  · have h00 : len = 0 := by omega
    subst h00
    clear hk
    by_cases hp : pk % 2 = 0
    · have hb : (pk % 2 == 0) = true := by simpa using hp
      go_enter Yba.func7, Yba.ntmps7
      go_wp2
      go_ret
      exact ⟨m, rfl, hm, rfl⟩
    · have hb : (pk % 2 == 0) = false := by simpa using hp
      go_enter Yba.func7, Yba.ntmps7
      go_wp2
      go_ret
      exact ⟨m, rfl, hm, rfl⟩

end Go.Proofs.Ybulkxae
