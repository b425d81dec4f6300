import Derived.Test.YbulkxaeWalks
namespace Go.Proofs.Ybulkxae
open Go.RowKit Go.Maps Go.ChangeMaps

/-- The value that goes with key i. -/
def valOf (vf : Nat → ByteArray) (vlen i : Nat) : ByteArray := if i < vlen then vf i else ⟨#[]⟩

theorem valOf_size {vf : Nat → ByteArray} {vlen : Nat} (h : ∀ j, (vf j).size ≤ maxLen) (i : Nat) : (valOf vf vlen i).size ≤ maxLen := by
  unfold valOf
  split
  · exact h i
  · decide

set_option maxHeartbeats 400000 in
theorem build_any (ao ao2 : Option Addr) (b off len cap b2 off2 len2 cap2 : Nat) (kf vf : Nat → ByteArray) (w : World) (hk : Strs ao b off len kf w) (hv : Strs ao2 b2 off2 len2 vf w) (hlen : len ≤ 1024) (hlen2 : len2 ≤ 1024) :
    Calls Yba.prog 6 #[.slice ao len cap, .slice ao2 len2 cap2] w fun e w' => ∃ M mb n, e = .returned (.pointer (some ⟨M, 0, none⟩)) ∧ w'.cell? ⟨M, 0, none⟩ = some (.map (some mb)) ∧ w'.ownsMap Yba.prog 9 (plainElem Yba.prog 9) mb n (dOf kf (valOf vf len2) len) ∧ w.heap.size ≤ M ∧ M < w'.heap.size ∧ mb < w'.heap.size ∧ Below w.heap.size w w' := by
  have km := mkMap
  go_enter Yba.func6, Yba.ntmps6
  go_wp2
  go_loopw [6] (fun si wr => ∃ k : Nat, si = .int .i64 k ∧ k ≤ len ∧ wr.ownsMap Yba.prog 9 (plainElem Yba.prog 9) w.heap.size k (dOf kf (valOf vf len2) k) ∧ Below w.heap.size w wr) (fun si _ => len - (intOf si).toNat)
  case atStart => exact ⟨0, rfl, Nat.zero_le _, World.ownsMap_made w _ _ _, (Below.refl _ _).alloc (Nat.le_refl _) _⟩
  case round =>
    obtain ⟨k, rfl, hkl, hown, hbw⟩ := hrel
    by_cases hlt : k < len
    · obtain rfl := hk.at_ (by omega)
      have ck := (hk.later hbw (Nat.le_refl _)).cell k hlt
      have sk := hk.size k
      have sv := valOf_size (vlen := len2) hv.size k
      have hltI : (k : Int) < (len : Int) := by omega
      have hkm : k < maxLen := by unfold maxLen; omega
      by_cases h2 : k < len2
      · obtain rfl := hv.at_ (by omega)
        have cv := (hv.later hbw (Nat.le_refl _)).cell k h2
        have h2I : (k : Int) < (len2 : Int) := by omega
        have hval : valOf vf len2 k = vf k := by simp [valOf, h2]
        have HV : Hid _ := hval
        clear hval km hk hv
        go_wp2_with (at_mapUpdate; apply Hid.out)
        unfold Hid
        refine wpList_mapUpdate_own _ rfl _ _ _ 51 rfl 9 9 key9 Yba.underlying51 (plainElem Yba.prog 9) w.heap.size k (dOf kf (valOf vf len2) k) rfl hown hkm (.string (kf k)) (.string (vf k)) (keyL (kf k)) rfl rfl (WideMaps.keyOf_string_mk Yba.underlying9 sk) (strD (vf k)) [] (plainElem_string Yba.underlying9 (by rw [← HV.out]; exact sv)) ?_
        intro w1 hown1 hg1
        have hb1 : Below w.heap.size w w1 := hbw.grown hg1 hbw.size (fun q hq => by cases hq; exact Nat.le_refl _)
        rw [← HV.out] at hown1
        have HO : Hid (w1.ownsMap Yba.prog 9 (plainElem Yba.prog 9) w.heap.size (k + 1) (dOf kf (valOf vf len2) (k + 1))) := hown1
        clear hown1 hg1 hown ck cv
        go_wp2
        go_roundw
        case rel => exact ⟨k + 1, by go_num, by omega, HO.out, hb1⟩
        case measure => simp [intOf]; omega
      · have h2I : (len2 : Int) ≤ (k : Int) := by omega
        have hval : valOf vf len2 k = ⟨#[]⟩ := by simp [valOf, h2]
        have HV : Hid _ := hval
        clear hval km hk hv
        go_wp2_with (at_mapUpdate; apply Hid.out)
        unfold Hid
        refine wpList_mapUpdate_own _ rfl _ _ _ 51 rfl 9 9 key9 Yba.underlying51 (plainElem Yba.prog 9) w.heap.size k (dOf kf (valOf vf len2) k) rfl hown hkm (.string (kf k)) (.string ⟨#[]⟩) (keyL (kf k)) rfl rfl (WideMaps.keyOf_string_mk Yba.underlying9 sk) (strD ⟨#[]⟩) [] (plainElem_string Yba.underlying9 (by decide)) ?_
        intro w1 hown1 hg1
        have hb1 : Below w.heap.size w w1 := hbw.grown hg1 hbw.size (fun q hq => by cases hq; exact Nat.le_refl _)
        rw [← HV.out] at hown1
        have HO : Hid (w1.ownsMap Yba.prog 9 (plainElem Yba.prog 9) w.heap.size (k + 1) (dOf kf (valOf vf len2) (k + 1))) := hown1
        clear hown1 hg1 hown ck
        go_wp2
        go_roundw
        case rel => exact ⟨k + 1, by go_num, by omega, HO.out, hb1⟩
        case measure => simp [intOf]; omega
    · have hkk : k = len := by omega
      subst hkk
      clear hk hv km
      go_wp2
      go_ret
      refine ⟨wr.heap.size, w.heap.size, k, rfl, ?_, hown.alloc _, hbw.size, by simp, by have := hown.lt; simp; omega, hbw.alloc hbw.size _⟩
      go_simp

theorem bytes_ne {a b : ByteArray} (h : ¬ a = b) : (a.toList == b.toList) = false := by
  rw [ByteArray.toList_eq, ByteArray.toList_eq, beq_eq_false_iff_ne]
  intro e
  apply h
  have h2 : a.data = b.data := Array.toList_inj.1 e
  cases a; cases b; simp_all

/-- The model, a loop from the end. -/
theorem model_hit {kf : Nat → ByteArray} {m : ByteArray} {n k : Nat} (hk : k < n) (h : ∀ i, k < i → i < n → kf i ≠ m) (e : kf k = m) : findL kf m n = some k := by
  rw [findL_below kf m (k + 1) n (by omega) (fun i h1 h2 => h i (by omega) h2), findL, if_pos e]

set_option maxHeartbeats 400000 in
theorem model_any (ao ao2 : Option Addr) (b off len cap b2 off2 len2 cap2 : Nat) (kf vf : Nat → ByteArray) (m : ByteArray) (w : World) (hk : Strs ao b off len kf w) (hv : Strs ao2 b2 off2 len2 vf w) (hlen : len ≤ 1024) (hlen2 : len2 ≤ 1024) :
    Calls Yba.prog 8 #[.slice ao len cap, .slice ao2 len2 cap2, .string m] w fun e w' => e = .returned (.tuple #[.string (modelS kf (valOf vf len2) m len), .bool (modelB kf m len)]) ∧ w' = w := by
  go_enter Yba.func8, Yba.ntmps8
  go_wp2
  go_loop [8] (fun si => ∃ k : Nat, si = .int .i64 ((k : Int) - 1) ∧ k ≤ len ∧ ∀ i, k ≤ i → i < len → kf i ≠ m) (fun si => (intOf si + 1).toNat)
  case atStart => exact ⟨len, by go_num, Nat.le_refl _, fun i h1 h2 => absurd h1 (by omega)⟩
  case round =>
    obtain ⟨k, rfl, hkl, hno⟩ := hrel
    by_cases h0 : 0 < k
    · obtain ⟨j, rfl⟩ : ∃ j, k = j + 1 := ⟨k - 1, by omega⟩
      obtain rfl := hk.at_ (by omega)
      have ck := hk.cell j (by omega)
      have hjI : (j : Int) < (len : Int) := by omega
      by_cases e : kf j = m
      · have hf := model_hit (kf := kf) (m := m) (n := len) (k := j) (by omega) (fun i h1 h2 => hno i (by omega) h2) e
        by_cases h2 : j < len2
        · obtain rfl := hv.at_ (by omega)
          have cv := hv.cell j h2
          have h2I : (j : Int) < (len2 : Int) := by omega
          have HF : Hid (modelS kf (valOf vf len2) m len = vf j ∧ modelB kf m len = true) := by
            simp only [modelS, modelB, hf]
            exact ⟨by simp [valOf, h2], rfl⟩
          rw [e] at ck
          clear hf hno hk hv e
          go_wp2
          go_ret2
          exact ⟨by rw [HF.out.1, HF.out.2]; rfl, rfl⟩
        · have h2I : (len2 : Int) ≤ (j : Int) := by omega
          have HF : Hid (modelS kf (valOf vf len2) m len = ⟨#[]⟩ ∧ modelB kf m len = true) := by
            simp only [modelS, modelB, hf]
            exact ⟨by simp [valOf, h2], rfl⟩
          rw [e] at ck
          clear hf hno hk hv e
          go_wp2
          go_ret2
          exact ⟨by rw [HF.out.1, HF.out.2]; rfl, rfl⟩
      · have hno' : Hid (∀ i, j ≤ i → i < len → kf i ≠ m) := fun i h1 h2 => by
          by_cases e2 : i = j
          · rw [e2]; exact e
          · exact hno i (by omega) h2
        have hne := bytes_ne e
        obtain ⟨x, hx⟩ : ∃ x, x = kf j := ⟨_, rfl⟩
        rw [← hx] at ck hne
        clear hno e hk hv hx
        go_wp2
        go_round
        case rel => exact ⟨j, by go_num, by omega, hno'.out⟩
        case measure => simp [intOf]
    · have hk0 : k = 0 := by omega
      subst hk0
      have hf : findL kf m len = none := findL_below kf m 0 len (by omega) (fun i h1 h2 => hno i h1 h2)
      have HF : Hid (modelS kf (valOf vf len2) m len = ⟨#[]⟩ ∧ modelB kf m len = false) := by
        exact ⟨by simp [modelS, hf], by simp [modelB, hf]⟩
      clear hno hf hk hv
      go_wp2
      go_ret2
      exact ⟨by rw [HF.out.1, HF.out.2]; rfl, rfl⟩

end Go.Proofs.Ybulkxae
