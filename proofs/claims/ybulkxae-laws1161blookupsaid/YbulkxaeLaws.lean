import Derived.Test.YbulkxaeBuild
namespace Go.Proofs.Ybulkxae
open Go.RowKit Go.Maps Go.ChangeMaps

set_option maxHeartbeats 400000 in
theorem isMember_nil (T : Nat) (m : ByteArray) (w : World) (hT : w.cell? ⟨T, 8, none⟩ = some (.pointer none)) :
    Calls Yba.prog 9 #[.pointer (some ⟨T, 0, none⟩), .string m] w fun e w' => e = .returned (.bool true) ∧ w' = w := by
  go_enter Yba.func9, Yba.ntmps9
  go_wp2_with fail
  refine (class_nil m _).mono ?_
  rintro e w1 ⟨rfl, hw1⟩
  subst hw1
  go_wp2
  go_ret
  exact ⟨rfl, rfl⟩

set_option maxHeartbeats 400000 in
theorem isMember_some (T M mb n : Nat) (D : DataW Unit) (m : ByteArray) (w : World) (hT : w.cell? ⟨T, 8, none⟩ = some (.pointer (some ⟨M, 0, none⟩))) (hM : w.cell? ⟨M, 0, none⟩ = some (.map (some mb))) (hown : w.ownsMap Yba.prog 9 (plainElem Yba.prog 9) mb n D) (hm : m.size ≤ maxLen) (bb : Bool) (hb : Maps.has D (keyL m) = bb) :
    Calls Yba.prog 9 #[.pointer (some ⟨T, 0, none⟩), .string m] w fun e w' => e = .returned (.bool bb) ∧ w' = w := by
  have HC := class_some M mb n D m w hM hown hm
  rw [hb] at HC
  clear hown hb hM
  go_enter Yba.func9, Yba.ntmps9
  go_wp2_with fail
  refine HC.mono ?_
  rintro e w1 ⟨s, rfl, _, hw1⟩
  subst hw1
  go_wp2
  go_ret
  exact ⟨rfl, rfl⟩

set_option maxHeartbeats 400000 in
theorem lookup_big (isNil : Bool) (ao ao2 : Option Addr) (len cap len2 cap2 : Nat) (m : ByteArray) (pk : Int) (w : World) (h : (1024 : Int) < (len : Int) ∨ (¬ (1024 : Int) < (len : Int) ∧ (1024 : Int) < (len2 : Int))) :
    Calls Yba.prog 3 #[.bool isNil, .slice ao len cap, .slice ao2 len2 cap2, .string m, .int .u8 pk] w fun e w' => e = .returned (.bool true) ∧ Below w.heap.size w w' := by
  rcases h with h | ⟨h1, h2⟩
  · go_enter Yba.func3, Yba.ntmps3
    go_wp2
    go_ret
    exact ⟨rfl, Below.refl _ _⟩
  · have hd : decide ((1024 : Int) < (len : Int)) = false := by simpa using h1
    go_enter Yba.func3, Yba.ntmps3
    go_wp2
    go_ret
    exact ⟨rfl, Below.refl _ _⟩

set_option maxHeartbeats 400000 in
theorem lookup_nil (ao ao2 : Option Addr) (len cap len2 cap2 : Nat) (m : ByteArray) (pk : Int) (w : World) (hl : len ≤ 1024) (hl2 : len2 ≤ 1024) :
    Calls Yba.prog 3 #[.bool true, .slice ao len cap, .slice ao2 len2 cap2, .string m, .int .u8 pk] w fun e w' => e = .returned (.bool true) ∧ Below w.heap.size w w' := by
  have hd : decide ((1024 : Int) < (len : Int)) = false := by simp; omega
  have hd2 : decide ((1024 : Int) < (len2 : Int)) = false := by simp; omega
  go_enter Yba.func3, Yba.ntmps3
  go_wp2_with fail
  refine (class_nil m _).mono ?_
  rintro e w1 ⟨rfl, hw1⟩
  subst hw1
  go_wp2
  go_ret
  exact ⟨rfl, Below.refl _ _⟩

set_option maxHeartbeats 400000 in
theorem lookup_some (ao ao2 : Option Addr) (b off len cap b2 off2 len2 cap2 : Nat) (kf vf : Nat → ByteArray) (m : ByteArray) (pk : Int) (w : World) (hk : Strs ao b off len kf w) (hv : Strs ao2 b2 off2 len2 vf w) (hl : len ≤ 1024) (hl2 : len2 ≤ 1024) (hm : m.size ≤ maxLen) (h0 : 0 ≤ pk) (h1 : pk ≤ 255) :
    Calls Yba.prog 3 #[.bool false, .slice ao len cap, .slice ao2 len2 cap2, .string m, .int .u8 pk] w fun e w' => e = .returned (.bool true) ∧ Below w.heap.size w w' := by
  have hd : decide ((1024 : Int) < (len : Int)) = false := by simp; omega
  have hd2 : decide ((1024 : Int) < (len2 : Int)) = false := by simp; omega
  have HB := build_any ao ao2 b off len cap b2 off2 len2 cap2 kf vf w hk hv hl hl2
  go_enter Yba.func3, Yba.ntmps3
  go_wp2_with fail
  refine HB.mono ?_
  rintro e w1 ⟨M, mb, n, rfl, hM, hown, hMB, hML, hmL, hb1⟩
  have hk1 := hk.later hb1 (Nat.le_refl _)
  have hv1 := hv.later hb1 (Nat.le_refl _)
  have HP := pick_any ao b off len cap kf m pk w1 hk1 hl hm h0 h1
  clear HB hk hv
  go_wp2_with fail
  refine HP.mono ?_
  rintro e w2 ⟨q, rfl, hq, hw2⟩
  subst hw2
  have HC := class_some M mb n _ q _ hM hown hq
  have HM := model_any ao ao2 b off len cap b2 off2 len2 cap2 kf vf q _ hk1 hv1 hl hl2
  rw [(look_dOf kf (valOf vf len2) q len).1] at HC
  change Calls _ _ _ _ (fun e w' => e = .returned (.tuple #[.string (modelS kf (valOf vf len2) q len), .bool (findL kf q len).isSome]) ∧ w' = _) at HM
  generalize (findL kf q len).isSome = bb at HC HM
  have HL := fun s => model_look kf (valOf vf len2) q s len
  generalize modelS kf (valOf vf len2) q len = sm at HM HL
  clear HP hM hown hk1 hv1
  go_wp2_with fail
  refine HC.mono ?_
  rintro e w3 ⟨s, rfl, hs, hw3⟩
  subst hw3
  have hsm := HL s hs
  rw [hsm]
  clear hs HC HL hsm
  go_wp2_with fail
  refine HM.mono ?_
  rintro e w4 ⟨rfl, hw4⟩
  subst hw4
  clear HM
  go_wp2
  go_ret
  exact ⟨by simp, hb1⟩

theorem strs_none (w : World) : Strs none 0 0 0 (fun _ => ⟨#[]⟩) w := ⟨fun h => absurd h (by decide), fun j h => absurd h (by omega), fun j => by decide⟩

set_option maxHeartbeats 400000 in
theorem member_big (isNil : Bool) (ao : Option Addr) (len cap : Nat) (m : ByteArray) (pk : Int) (w : World) (_h : (1024 : Int) < (len : Int)) :
    Calls Yba.prog 4 #[.bool isNil, .slice ao len cap, .string m, .int .u8 pk] w fun e w' => e = .returned (.bool true) ∧ Below w.heap.size w w' := by
  go_enter Yba.func4, Yba.ntmps4
  go_wp2
  go_ret
  exact ⟨rfl, Below.refl _ _⟩

set_option maxHeartbeats 400000 in
theorem member_nil (ao : Option Addr) (b off len cap : Nat) (kf : Nat → ByteArray) (m : ByteArray) (pk : Int) (w : World) (hk : Strs ao b off len kf w) (hl : len ≤ 1024) (hm : m.size ≤ maxLen) (h0 : 0 ≤ pk) (h1 : pk ≤ 255) :
    Calls Yba.prog 4 #[.bool true, .slice ao len cap, .string m, .int .u8 pk] w fun e w' => e = .returned (.bool true) ∧ Below w.heap.size w w' := by
  have hd : decide ((1024 : Int) < (len : Int)) = false := by simp; omega
  have HP := pick_any ao b off len cap kf m pk w hk hl hm h0 h1
  clear hk
  go_enter Yba.func4, Yba.ntmps4
  go_wp2_with fail
  refine HP.mono ?_
  rintro e w1 ⟨q, rfl, hq, hw1⟩
  subst hw1
  go_wp2_with fail
  refine (isMember_nil _ q _ ?_).mono ?_
  · go_simp
  rintro e w2 ⟨rfl, hw2⟩
  subst hw2
  go_wp2
  go_ret
  exact ⟨rfl, (Below.refl _ _).alloc (Nat.le_refl _) _⟩

set_option maxHeartbeats 400000 in
theorem member_some (ao : Option Addr) (b off len cap : Nat) (kf : Nat → ByteArray) (m : ByteArray) (pk : Int) (w : World) (hk : Strs ao b off len kf w) (hl : len ≤ 1024) (hm : m.size ≤ maxLen) (h0 : 0 ≤ pk) (h1 : pk ≤ 255) :
    Calls Yba.prog 4 #[.bool false, .slice ao len cap, .string m, .int .u8 pk] w fun e w' => e = .returned (.bool true) ∧ Below w.heap.size w w' := by
  have hd : decide ((1024 : Int) < (len : Int)) = false := by simp; omega
  have HP := pick_any ao b off len cap kf m pk w hk hl hm h0 h1
  have HB := build_any ao none b off len cap 0 0 0 0 kf (fun _ => ⟨#[]⟩) w hk (strs_none w) hl (by decide)
  go_enter Yba.func4, Yba.ntmps4
  go_wp2_with fail
  refine HP.mono ?_
  rintro e w1 ⟨q, rfl, hq, hw1⟩
  subst hw1
  go_wp2_with fail
  refine HB.mono ?_
  rintro e w2 ⟨M, mb, n, rfl, hM, hown, hMB, hML, hmL, hb2⟩
  have hk2 := hk.later hb2 (Nat.le_refl _)
  have HM := fun w3 (h : Strs ao b off len kf w3) => model_any ao none b off len cap 0 0 0 0 kf (fun _ => ⟨#[]⟩) q w3 h (strs_none w3) hl (by decide)
  have hbb : Maps.has (dOf kf (valOf (fun _ => ⟨#[]⟩) 0) len) (keyL q) = modelB kf q len := (look_dOf kf (valOf (fun _ => ⟨#[]⟩) 0) q len).1
  generalize modelS kf (valOf (fun _ => ⟨#[]⟩) 0) q len = sm at HM
  generalize modelB kf q len = bb at HM hbb
  have Hbb : Hid _ := hbb
  clear HP HB hk hbb
  go_wp2_with fail
  refine (HM _ (hk2.later ((Below.refl _ _).alloc (Nat.le_refl _) _) (Nat.le_refl _))).mono ?_
  rintro e w3 ⟨rfl, hw3⟩
  subst hw3
  clear HM hk2
  go_wp2_with fail
  refine (isMember_some _ M mb n _ q _ ?_ ?_ (hown.alloc _) hq bb Hbb.out).mono ?_
  · go_simp
  · go_simp
  rintro e w4 ⟨rfl, hw4⟩
  subst hw4
  go_wp2
  go_ret
  exact ⟨by simp, hb2.alloc hb2.size _⟩

end Go.Proofs.Ybulkxae
