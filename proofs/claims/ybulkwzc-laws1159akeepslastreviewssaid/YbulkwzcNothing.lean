import Derived.Test.YbulkwzcToLog
import Derived.Test.YbulkwzcLogged
import Derived.Test.YbulkwzcBuild
namespace Go.Proofs.Ybulkwzc
open Go.RowKit

theorem kept_toLog (L : Int) (rs : List (Int × Nat × Nat)) : (keptOf L rs).length + (toLog L rs).length = rs.length := by
  induction rs with
  | nil => rfl
  | cons r rs ih =>
    unfold keptOf toLog at *
    by_cases h : r.1 = L <;> simp [h] <;> omega

theorem toLog_kept (L : Int) (rs : List (Int × Nat × Nat)) : toLog L (keptOf L rs) = [] := by
  unfold keptOf toLog
  rw [List.filter_filter]
  simp

/-- 'p.reviewsToLog()' on the product as it was built. -/
theorem toLog_built {N len : Nat} {zs : List Int} {code : ByteArray} {d : Int} {w0 w : World} (hB : Built N len zs code d w0 w) (hlen : len ≤ 1024) :
    Calls Yba.prog 7 #[.pointer (some ⟨N + 4, 0, none⟩)] w fun e w' => ∃ a c, e = .returned (.slice a (toLog d (revsOf zs len)).length c) ∧ Below w.heap.size w w' :=
  toLog_any (N + 4) N (N + 1) _ (revsOf zs len) d w (by rw [revsOf_length]; exact hB.own) hB.c45 hB.c13 (by rw [revsOf_length]; exact hlen)

/-- 'p.logged(log, addr)' on the product as it was built. -/
theorem logged_built {N len : Nat} {zs : List Int} {code : ByteArray} {d : Int} {w0 w : World} (hB : Built N len zs code d w0 w) (hlen : len ≤ 1024) (lg : Option Addr) (addr : Int) :
    Calls Yba.prog 6 #[.pointer (some ⟨N + 4, 0, none⟩), .pointer lg, .int .i64 addr] w fun e w' => ∃ v', e = .returned (.tuple #[]) ∧ Logged (N + 4) N (.string code) lg addr d (keptOf d (revsOf zs len)) w.heap.size w' v' ∧ Below (N + 4) w w' := by
  obtain ⟨u2, h2⟩ := hB.c42
  obtain ⟨u3, h3⟩ := hB.c43
  obtain ⟨u4, h4⟩ := hB.c44
  obtain ⟨u6, h6⟩ := hB.c46
  exact logged_any (N + 4) N (N + 1) (N + 1) len (revsOf zs len) d (.string code) u2 u3 u4 u6 lg addr w (by rw [revsOf_length]; exact hB.own) (by rw [revsOf_length]; exact hB.c45) hB.c13 hB.c0 h2 h3 h4 h6 hB.fz (by rw [revsOf_length]; exact hlen)

theorem Logged.later {pb bb : Nat} {code : Value} {lg : Option Addr} {addr L : Int} {ks : List (Int × Nat × Nat)} {base : Nat} {w w' : World} {v : Value} (h : Logged pb bb code lg addr L ks base w v) (hp : pb < w.heap.size) (hb : Below w.heap.size w w') : Logged pb bb code lg addr L ks base w' v := by
  have c : ∀ o, w'.cell? ⟨pb, o, none⟩ = w.cell? ⟨pb, o, none⟩ := fun o => hb.cell (p := ⟨pb, o, none⟩) hp
  exact ⟨own_below h.own hb (fun k hk => (h.own.lt k hk).2), (c _).trans h.c0, (c _).trans h.c13, (c _).trans h.c42, (c _).trans h.c43, (c _).trans h.c44, (c _).trans h.c45, (c _).trans h.c46⟩

set_option maxHeartbeats 400000 in
theorem nothing_small (ao : Option Addr) (b off len cap : Nat) (zs : List Int) (last addr : Int) (w : World)
    (hao : 0 < len → ao = some ⟨b, off, none⟩) (hlen : len ≤ 1024)
    (hc : ∀ j, j < len → w.cell? ⟨b, off + j, none⟩ = some (.int .u8 (zs.getD j 0))) (hzr : ∀ j, 0 ≤ zs.getD j 0 ∧ zs.getD j 0 ≤ 255)
    (hl : 0 ≤ last ∧ last ≤ 255) :
    Calls Yba.prog 4 #[.slice ao len cap, .int .u8 last, .int .i64 addr] w fun e w' => e = .returned (.bool true) ∧ Below w.heap.size w w' := by
  have hkl : Hid ((keptOf (last % 4) (revsOf zs len)).length + (toLog (last % 4) (revsOf zs len)).length = len) := (kept_toLog (last % 4) (revsOf zs len)).trans (revsOf_length zs len)
  have hkn : Hid (toLog (last % 4) (keptOf (last % 4) (revsOf zs len)) = []) := toLog_kept (last % 4) (revsOf zs len)
  have hk1 : (keptOf (last % 4) (revsOf zs len)).length ≤ 1024 := by have := hkl.out; omega
  have hk2 : (toLog (last % 4) (revsOf zs len)).length ≤ 1024 := by have := hkl.out; omega
  have HB := build_any ao b off len cap zs last 1 1 ⟨#[]⟩ w hao hlen hc hzr hl (by omega) (by omega)
  clear hao hc hzr
  go_enter Yba.func4, Yba.ntmps4
  go_wp2_with fail
  refine HB.mono ?_
  rintro e w1 ⟨rfl, hB⟩
  clear HB
  go_wp2_with fail
  refine (toLog_built hB hlen).mono ?_
  rintro e w2 ⟨a2, c2, rfl, hb2⟩
  have hB2 := hB.later (hb2.mono hB.size)
  clear hB hb2
  go_wp2_with fail
  refine (logged_built (hB2.later ?hb) hlen _ _).mono ?_
  case hb => exact (Below.refl _ _).alloc hB2.size _
  rintro e w3 ⟨v3, rfl, hL3, hb3⟩
  have hN : w.heap.size + 5 ≤ w2.heap.size := hB2.size
  have hb30 : Below w.heap.size w w3 := (hB2.below.alloc (by omega) _).trans (hb3.mono (by omega))
  have hs3 : w.heap.size + 4 < w3.heap.size := by have := hb3.size; simp at this; omega
  obtain ⟨a3, c3, rfl⟩ := own_shape hL3.own
  have h45 := hL3.c45
  have hT := fun k => toLog_any (w.heap.size + 4) w.heap.size _ _ _ (last % 4) w3 hL3.own hL3.c45 hL3.c13 k
  have HT := hT hk1
  rw [hkn.out] at HT
  have hne : (((keptOf (last % 4) (revsOf zs len)).length : Int) + ((toLog (last % 4) (revsOf zs len)).length : Int) != (len : Int)) = false := by
    have := hkl.out
    simp
    omega
  clear hT hL3 hB2 hb3
  go_wp2_with fail
  refine HT.mono ?_
  rintro e w4 ⟨a4, c4, rfl, hb4⟩
  clear HT
  go_wp2
  go_ret
  exact ⟨rfl, hb30.trans (hb4.mono (by omega))⟩

set_option maxHeartbeats 400000 in
theorem nothing_big (ao : Option Addr) (len cap : Nat) (last addr : Int) (w : World) (_hlen : 1024 < (len : Int)) :
    Calls Yba.prog 4 #[.slice ao len cap, .int .u8 last, .int .i64 addr] w fun e w' => e = .returned (.bool true) ∧ Below w.heap.size w w' := by
  go_enter Yba.func4, Yba.ntmps4
  go_wp2
  go_ret
  exact ⟨rfl, Below.refl _ _⟩

end Go.Proofs.Ybulkwzc
