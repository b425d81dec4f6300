import Derived.Test.YbulkxasSkip
namespace Go.Proofs.Ybulkxas
open Go.RowKit

/-- The string stands at o just where each of its bytes does. -/
theorem cut_eq (zs : List Int) (o : Nat) (s : ByteArray) (hl : o + s.size ≤ zs.length) (hr : ∀ j, 0 ≤ zs.getD j 0 ∧ zs.getD j 0 ≤ 255) :
    ((cutS zs o s.size).toList == s.toList) = true ↔ ∀ j (h : j < s.size), zs.getD (o + j) 0 = ((s[j]).toNat : Int) := by
  rw [beq_iff_eq, ByteArray.toList_eq, ByteArray.toList_eq]
  unfold cutS
  rw [strOfNums_data]
  have hsz : s.data.toList.length = s.size := by rw [Array.length_toList]; rfl
  constructor
  · intro e j h
    have h1 := congrArg (fun l : List UInt8 => l[j]?) e
    simp only [List.getElem?_map, List.getElem?_take, if_pos h, List.getElem?_drop] at h1
    rw [List.getElem?_eq_getElem (show o + j < zs.length by omega), List.getElem?_eq_getElem (show j < s.data.toList.length by omega)] at h1
    simp only [Option.map_some, Option.some.injEq] at h1
    have hb := hr (o + j)
    rw [List.getD_eq_getElem?_getD, List.getElem?_eq_getElem (show o + j < zs.length by omega)] at hb ⊢
    simp only [Option.getD_some] at hb ⊢
    have h2 : (UInt8.ofNat zs[o + j].toNat).toNat = (s.data.toList[j]'(by omega)).toNat := by rw [h1]
    rw [UInt8.toNat_ofNat_of_lt' (by show _ < 256; omega)] at h2
    have h3 : s[j] = s.data.toList[j]'(by omega) := rfl
    rw [h3, ← h2]
    omega
  · intro e
    apply List.ext_getElem
    · simp; omega
    · intro j h1 h2
      have hj : j < s.size := by omega
      have := e j hj
      rw [List.getD_eq_getElem?_getD, List.getElem?_eq_getElem (show o + j < zs.length by omega)] at this
      simp only [Option.getD_some] at this
      simp only [List.getElem_map, List.getElem_take, List.getElem_drop]
      rw [this, Int.toNat_natCast]
      have h3 : s[j] = s.data.toList[j]'(by omega) := rfl
      rw [h3]
      exact UInt8.ofNat_toNat

theorem first_bad (p : Nat → Prop) (n : Nat) (h : ¬ ∀ j, j < n → p j) : ∃ d, d < n ∧ ¬ p d ∧ ∀ j, j < d → p j := by
  induction n with
  | zero => exact absurd (fun j hj => absurd hj (by omega)) h
  | succ n ih =>
    by_cases hn : ∀ j, j < n → p j
    · refine ⟨n, by omega, fun hp => h fun j hj => ?_, hn⟩
      by_cases e : j = n
      · rw [e]; exact hp
      · exact hn j (by omega)
    · obtain ⟨d, h1, h2, h3⟩ := ih hn
      exact ⟨d, by omega, h2, h3⟩

theorem neq22 (w : World) : (binOp .neq 22 (.slice none 0 0) (.slice none 0 0)).run Yba.prog w = .ok (.bool false) w := run_neq_slice_nil_any w 22 5 none 0 0 0 0 Yba.underlying22

/-- The reader behind the skip. -/
structure After (R : Nat) (ao : Option Addr) (len cap : Nat) (o : Int) (w w2 : World) : Prop where
  c0 : w2.cell? ⟨R, 0, none⟩ = some (.slice ao len cap)
  c1 : w2.cell? ⟨R, 1, none⟩ = some (.int .i64 o)
  c2 : w2.cell? ⟨R, 2, none⟩ = some (.slice none 0 0)
  below : Below w.heap.size w w2

theorem after_same {ao : Option Addr} {len cap : Nat} {o : Int} {w w2 : World} (h : Same w2 (w.alloc (.cells #[.slice ao len cap, .int .i64 o, .slice none 0 0] 27))) : After w.heap.size ao len cap o w w2 :=
  ⟨by rw [h.cell]; go_simp, by rw [h.cell]; go_simp, by rw [h.cell]; go_simp, h.below ((Below.refl _ _).alloc (Nat.le_refl _) _)⟩
theorem after_set {ao : Option Addr} {len cap : Nat} {o o2 : Int} {w w2 : World} (h : Same w2 ((w.alloc (.cells #[.slice ao len cap, .int .i64 o, .slice none 0 0] 27)).setCell ⟨w.heap.size, 1, none⟩ (.int .i64 o2))) : After w.heap.size ao len cap o2 w w2 :=
  ⟨by rw [h.cell]; go_simp, by rw [h.cell]; go_simp, by rw [h.cell]; go_simp, h.below (((Below.refl _ _).alloc (Nat.le_refl _) _).setCell (Nat.le_refl _) _)⟩

set_option maxHeartbeats 400000 in
theorem model_big (ao : Option Addr) (len cap : Nat) (s : ByteArray) (x : Int) (w : World) (h : (4096 : Int) < (len : Int) ∨ (¬ (4096 : Int) < (len : Int) ∧ (4096 : Int) < (s.size : Int))) (_hs : s.size ≤ maxLen) :
    Calls Yba.prog 3 #[.slice ao len cap, .string s, .int .u16 x] w fun e w' => e = .returned (.bool true) ∧ Below w.heap.size w w' := by
  rcases h with h | ⟨h1, h2⟩
  · go_enter Yba.func3, Yba.ntmps3
    go_wp2
    go_ret
    exact ⟨rfl, Below.refl _ _⟩
  · have hd : decide ((4096 : Int) < (len : Int)) = false := by simpa using h1
    go_enter Yba.func3, Yba.ntmps3
    go_wp2
    go_ret
    exact ⟨rfl, Below.refl _ _⟩

set_option maxHeartbeats 1000000 in
theorem model_small (ao : Option Addr) (b off len cap : Nat) (zs : List Int) (s : ByteArray) (x : Int) (w : World) (hao : 0 < len → ao = some ⟨b, off, none⟩) (hlc : len ≤ cap) (hlen : len ≤ 4096) (hz : len ≤ zs.length) (hr : ∀ j, 0 ≤ zs.getD j 0 ∧ zs.getD j 0 ≤ 255)
    (hc : ∀ j, j < len → w.cell? ⟨b, off + j, none⟩ = some (.int .u8 (zs.getD j 0))) (x0 : 0 ≤ x) (x1 : x ≤ 65535) (hs : s.size ≤ 4096) :
    Calls Yba.prog 3 #[.slice ao len cap, .string s, .int .u16 x] w fun e w' => e = .returned (.bool true) ∧ Below w.heap.size w w' := by
  have hd : decide ((4096 : Int) < (len : Int)) = false := by simp; omega
  have hd2 : decide ((4096 : Int) < (s.size : Int)) = false := by simp; omega
  have HCL := clamp_any ao len cap x w hlen x0 x1
  have k22 := neq22
  go_enter Yba.func3, Yba.ntmps3
  go_wp2_with fail
  refine HCL.mono ?_
  rintro e w1 ⟨o, hol, rfl, hw1⟩
  subst hw1
  clear HCL
  by_cases hsh : (len : Int) - (o : Int) < (s.size : Int)
  · have hge : decide ((s.size : Int) ≤ (len : Int) - (o : Int)) = false := by simp; omega
    clear hao hc hr
    go_wp2_with fail
    refine (skip_short w1.heap.size o len cap ao s _ ?_ ?_ hol hlen hs hsh).mono ?_
    · go_simp
    · go_simp
    rintro e w2 ⟨rfl, hsm⟩
    obtain ⟨c0, c1, c2, hb⟩ := after_same hsm
    clear hsm
    go_wp2
    refine wp_loop_rounds 1 ?_
    rw [rounds_succ]
    go_wp2
    go_ret
    exact ⟨rfl, hb⟩
  · have hge : decide ((s.size : Int) ≤ (len : Int) - (o : Int)) = true := by simp; omega
    by_cases hs0 : s.size = 0
    · obtain rfl : s = ⟨#[]⟩ := by
        cases s with
        | mk d =>
          simp only [ByteArray.size] at hs0
          rw [Array.eq_empty_of_size_eq_zero hs0]
      clear hao hc hr
      go_wp2_with fail
      refine (skip_zero w1.heap.size o len cap ao _ ?_ ?_ ?_ hol hlc hlen).mono ?_
      · go_simp
      · go_simp
      · go_simp
      rintro e w2 ⟨rfl, hsm⟩
      obtain ⟨c0, c1, c2, hb⟩ := after_set hsm
      clear hsm
      go_wp2
      refine wp_loop_rounds 1 ?_
      rw [rounds_succ]
      go_wp2
      go_ret
      exact ⟨rfl, hb⟩
    · obtain rfl := hao (by omega)
      have hbB : b < w1.heap.size := World.block_lt_of_cell? w1 _ (hc 0 (by omega))
      have hw : Below w1.heap.size w1 (w1.alloc (.cells #[.slice (some ⟨b, off, none⟩) len cap, .int .i64 o, .slice none 0 0] 27)) := (Below.refl _ _).alloc (Nat.le_refl _) _
      have hle : o + s.size ≤ len := by omega
      have hiff := cut_eq zs o s (by omega) hr
      have Hc : Hid _ := hc
      have Hr : Hid _ := hr
      by_cases he : ((cutS zs o s.size).toList == s.toList) = true
      · have hall : Hid _ := hiff.1 he
        clear hiff hc hr hao
        go_wp2_with fail
        refine (skip_yes w1.heap.size o b off len cap zs s _ ?_ ?_ ?_ hlc hlen hz ?_ (by omega) hle he).mono ?_
        · go_simp
        · go_simp
        · go_simp
        · intro j hj
          exact (hw.cell (p := ⟨b, off + j, none⟩) hbB).trans (Hc.out j hj)
        rintro e w2 ⟨rfl, hsm⟩
        obtain ⟨c0, c1, c2, hb⟩ := after_set hsm
        clear hsm he hw
        go_wp2
        go_loopw [10, 11] (fun wt si wr => ∃ i : Nat, wt = .bool true ∧ si = .int .i64 i ∧ i ≤ s.size ∧ ∃ q, wr = w2.drewN q) (fun _ si _ => s.size - (intOf si).toNat)
        case atStart => exact ⟨0, rfl, rfl, Nat.zero_le _, 0, rfl⟩
        case round =>
          obtain ⟨i, rfl, rfl, hi, q, rfl⟩ := hrel
          by_cases hlt : i < s.size
          · have ht : w2.cell? ⟨b, off + (o + i), none⟩ = some (.int .u8 (zs.getD (o + i) 0)) := (hb.cell (p := ⟨b, off + (o + i), none⟩) hbB).trans (Hc.out (o + i) (by omega))
            rw [hall.out i hlt] at ht
            have hltI : (i : Int) < (s.size : Int) := by omega
            have hoiI : (o : Int) + (i : Int) < (len : Int) := by omega
            go_wp2_with fail
            go_quiet (fail)
            go_wp2
            go_roundw
            case rel => exact ⟨i + 1, rfl, by go_num, by omega, _, rfl⟩
            case measure => simp [intOf]; omega
          · have hii : i = s.size := by omega
            subst hii
            go_wp2
            go_ret
            exact ⟨rfl, below_drewN hb q⟩
      · obtain ⟨d, hds, hbad, hgood⟩ := first_bad (fun j => ∀ h : j < s.size, zs.getD (o + j) 0 = ((s[j]).toNat : Int)) s.size (fun h => he (hiff.2 fun j hj => h j hj hj))
        have he' : ((cutS zs o s.size).toList == s.toList) = false := Bool.eq_false_iff.2 he
        have Hgood : Hid _ := hgood
        have hneB : (zs.getD (o + d) 0 != ((s[d]).toNat : Int)) = true := by
          rw [bne_iff_ne]
          exact fun e => hbad fun _ => e
        obtain ⟨T, hT⟩ : ∃ T, T = zs.getD (o + d) 0 := ⟨_, rfl⟩
        rw [← hT] at hneB
        have HT : Hid _ := hT
        clear hiff hc hr hao hbad hgood he hT
        go_wp2_with fail
        refine (skip_no w1.heap.size o b off len cap zs s _ ?_ ?_ hlc hlen hz ?_ (by omega) hle he').mono ?_
        · go_simp
        · go_simp
        · intro j hj
          exact (hw.cell (p := ⟨b, off + j, none⟩) hbB).trans (Hc.out j hj)
        rintro e w2 ⟨rfl, hsm⟩
        obtain ⟨c0, c1, c2, hb⟩ := after_same hsm
        clear hsm he' hw
        go_wp2
        go_loopw [10, 11] (fun wt si wr => ∃ i : Nat, si = .int .i64 i ∧ ((i ≤ d ∧ wt = .bool true) ∨ (i = d + 1 ∧ wt = .bool false)) ∧ ∃ q, wr = w2.drewN q) (fun _ si _ => d + 1 - (intOf si).toNat)
        case atStart => exact ⟨0, rfl, .inl ⟨Nat.zero_le _, rfl⟩, 0, rfl⟩
        case round =>
          obtain ⟨i, rfl, hi, q, rfl⟩ := hrel
          rcases hi with ⟨hid, rfl⟩ | ⟨rfl, rfl⟩
          · have hltI : (i : Int) < (s.size : Int) := by omega
            have hlt : i < s.size := by omega
            have hoiI : (o : Int) + (i : Int) < (len : Int) := by omega
            have ht : w2.cell? ⟨b, off + (o + i), none⟩ = some (.int .u8 (zs.getD (o + i) 0)) := (hb.cell (p := ⟨b, off + (o + i), none⟩) hbB).trans (Hc.out (o + i) (by omega))
            by_cases hdi : i = d
            · subst hdi
              rw [← HT.out] at ht
              go_wp2_with fail
              go_quiet (fail)
              go_wp2
              go_roundw
              case rel => exact ⟨i + 1, by go_num, .inr ⟨rfl, rfl⟩, _, rfl⟩
              case measure => simp [intOf]
            · rw [Hgood.out i (by omega) hlt] at ht
              go_wp2_with fail
              go_quiet (fail)
              go_wp2
              go_roundw
              case rel => exact ⟨i + 1, by go_num, .inl ⟨by omega, rfl⟩, _, rfl⟩
              case measure => simp [intOf]; omega
          · go_wp2
            go_ret
            exact ⟨rfl, below_drewN hb q⟩

end Go.Proofs.Ybulkxas
