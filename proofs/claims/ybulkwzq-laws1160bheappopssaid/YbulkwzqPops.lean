import Derived.Test.YbulkwzqSeen
namespace Go.Proofs.Ybulkwzq
open Go.RowKit HeapMath

theorem tAss (a : Addr) (w : World) : (Instr.typeAssert (.iface 23 (.pointer (some a))) 20 23 false).run Yba.prog w = .ok (.pointer (some a)) w := by kernel_rfl

set_option maxHeartbeats 2000000 in
set_option maxRecDepth 100000 in
theorem pops_small (ao : Option Addr) (b off len cap : Nat) (zs : List Int) (w : World)
    (hao : 0 < len → ao = some ⟨b, off, none⟩) (hlen : len ≤ 512)
    (hc : ∀ j, j < len → w.cell? ⟨b, off + j, none⟩ = some (.int .i16 (zs.getD j 0))) (hzr : ∀ j, -32768 ≤ zs.getD j 0 ∧ zs.getD j 0 ≤ 32767) :
    Calls Yba.prog 4 #[.slice ao len cap] w fun e w' => e = .returned (.bool true) ∧ Below w.heap.size w w' := by
  obtain ⟨i0, hi, hz0, hz1, hz2⟩ := info_parts info23
  have hdec : decide ((512 : Int) < (len : Int)) = false := by simp; omega
  have Hao : Hid _ := hao
  have Hc : Hid _ := hc
  have Hz : Hid _ := hzr
  clear hao hc hzr
  go_enter Yba.func4, Yba.ntmps4
  go_wp2_with fail
  go_loopw [5] (fun si wr => ∃ (k : Nat) (S C : Nat → Nat) (v : Value), si = .int .i64 k ∧ k ≤ len ∧ QS w.heap.size w.heap.size k S C (tOf zs) (List.range k) v wr ∧ Below w.heap.size w wr) (fun si _ => len - (intOf si).toNat)
  case atStart => exact ⟨0, fun _ => 0, fun _ => 0, _, rfl, Nat.zero_le _, QS.start w _ _ _, (Below.refl _ _).alloc (Nat.le_refl _) _⟩
  case round =>
    obtain ⟨k, S, C, v, rfl, hk, hq, hbw⟩ := hrel
    by_cases hlt : k < len
    · obtain rfl := Hao.out (by omega)
      have hbB : b < w.heap.size := World.block_lt_of_cell? w _ (Hc.out 0 (by omega))
      have hck : wr.cell? ⟨b, off + k, none⟩ = some (.int .i16 (zs.getD k 0)) := (hbw.cell (p := ⟨b, off + k, none⟩) hbB).trans (Hc.out k hlt)
      have hd := Hz.out k
      have HS := fun w => sus_any (zs.getD k 0) (k : Int) w (by omega) (by omega)
      obtain ⟨a1, c1, hv⟩ := hq.len
      subst hv
      have hq' : QS w.heap.size w.heap.size k S C (tOf zs) (List.range k) (.slice a1 k c1) wr := by simpa only [List.length_range] using hq
      have q0 := hq'.cellQ
      have hqB : w.heap.size < wr.heap.size := lt_of_heap hq.hq
      have hltI : (k : Int) < (len : Int) := by omega
      have HQ : Hid _ := hq'
      obtain ⟨d, hDd⟩ : ∃ d, zs.getD k 0 = d := ⟨_, rfl⟩
      rw [hDd] at hck hd HS
      have HD : Hid (tOf zs k = d) := hDd
      have hwd : IntKind.i64.wrap d = d := by rw [IntKind.wrap_i64]; omega
      clear hq hq' hDd
      go_wp2_with fail
      go_region_law (first
        | (go_simp; go_at_call 5; refine (HS _).mono ?_; rintro e w1 ⟨Sn, Cn, rfl, hn1, hn2, hn3, hsus, hb1⟩; have hb1' : Below wr.heap.size wr w1 := (Below.refl _ _).drew.trans hb1; have q1 : w1.cell? ⟨w.heap.size, 0, none⟩ = some (.slice a1 k c1) := (hb1'.cell (p := ⟨w.heap.size, 0, none⟩) hqB).trans q0; have hqW : w.heap.size < w1.heap.size := Nat.lt_of_lt_of_le hqB hb1'.size)
        | (refine step_append_own rfl (.tmp 28) (.tmp 36) 25 rfl w.heap.size 23 i0 (.pointer none) 1 8 Yba.underlying25 hi hz0 hz1 hz2 rfl (by decide) (.slice a1 k c1) k ((List.range k).map (ptrTo S)) rfl ?_ ⟨w1.heap.size, 0, none⟩ 1 1 [.pointer (some ⟨Sn, 0, none⟩)] rfl rfl ?_ ?_ ?_ ?_ ?_ ?_; exact (show w1.ownsRow w.heap.size 23 1 (.slice a1 k c1) k ((List.range k).map (ptrTo S)) from by simpa using (HQ.out.later hb1').own).alloc _; exact cell_one_new _ _ _; exact one_ptr _; exact (by unfold maxLen; omega); omega; exact (by simp; omega); intro v2 w2 ho2 hg2; obtain ⟨g2, c2, rfl⟩ := own_some ho2; have hG := QS.grow HQ.out hb1' (by rw [HD.out]; exact hsus) ho2 hg2 ⟨_, _, rfl⟩; obtain ⟨q2, f2⟩ := QS.growQ HQ.out hb1' hg2))
      all_goals
        have hGG : Hid _ := hG
        clear hG ho2 hg2 q2 f2 q1 hsus hb1 hb1' hn1 hn2 hn3 HS HD hwd hck hd q0 HQ
        go_wp2
        go_roundw
        case rel => exact ⟨k + 1, _, _, _, by go_num, by omega, hGG.out.1, hbw.trans hGG.out.2⟩
        case measure => simp [intOf]; omega
    · have hkk : k = len := by omega
      subst hkk
      have k5 := mkBool k (by omega)
      have HI := init_any hq (by simp; omega)
      simp only [List.length_range] at HI
      have hqB : w.heap.size < wr.heap.size := lt_of_heap hq.hq
      have hvb : ∀ q, v.ownBlock = some q → w.heap.size ≤ q := fun q hh => (hq.own.lt q hh).1
      clear hi hz0 hz1 hz2 hlt
      go_wp2_with fail
      refine HI.mono ?_
      rintro e w1 ⟨p1, rfl, hq1, hp1, hh1, hk1⟩
      have hb1 : Below w.heap.size w w1 := hbw.trans (hk1.below (by omega) (Nat.le_refl _) hvb)
      have hs1 : w.heap.size ≤ w1.heap.size := hb1.size
      have hpl1 : p1.length = k := by rw [hp1.length_eq]; simp
      have hLP : LP w.heap.size k w1.heap.size S C (tOf zs) 0 p1 [] v 0 0 w (w1.alloc (.cells (seenArr k []) 4)) := by
        refine ⟨hq1.later ((Below.refl _ _).alloc (Nat.le_refl _) _), by omega, by rw [hpl1]; exact hh1, by simpa using hp1, heap_alloc_new w1 _, hb1.alloc hs1 _, fun h => absurd h (by omega)⟩
      have HLP : Hid _ := hLP
      clear HI hq hq1 hp1 hh1 hk1 hpl1 hLP hbw hb1
      go_wp2_with fail
      generalize w1.heap.size = sb at *
      go_loopw [7, 8, 9] (fun pt ps si wr => ∃ (kk : Nat) (p dn : List Nat) (v : Value) (a c : Int), pt = .int .i64 a ∧ ps = .int .i64 c ∧ si = .int .i64 kk ∧ kk ≤ k ∧ LP w.heap.size k sb S C (tOf zs) kk p dn v a c w wr) (fun _ _ si _ => k - (intOf si).toNat)
      case atStart => exact ⟨0, p1, [], v, 0, 0, rfl, rfl, rfl, Nat.zero_le _, HLP.out⟩
      case round =>
        obtain ⟨kk, p, dn, v, a, c, rfl, rfl, rfl, hkk, hL⟩ := hrel
        have hplen := hL.plen
        have hpI : (p.length : Int) = (k : Int) - (kk : Int) := by omega
        have HN := len_q hL.q
        rw [hpI] at HN
        clear HLP
        by_cases hlt : kk < k
        · obtain rfl := Hao.out (by omega)
          have hbB : b < w.heap.size := World.block_lt_of_cell? w _ (Hc.out 0 (by omega))
          obtain ⟨m, hm⟩ : ∃ m, p.length = m + 1 := ⟨p.length - 1, by omega⟩
          obtain ⟨x, hx⟩ : ∃ x, p.getD 0 0 = x := ⟨_, rfl⟩
          have hxp : x ∈ p := by
            rw [← hx, List.getD_eq_getElem?_getD, List.getElem?_eq_getElem (by omega)]
            exact List.getElem_mem _
          have hheap := hL.heap
          rw [hm] at hheap
          have HP := hpop_any hL.q m hm (by omega) hheap x hx
          have hfx := hL.fresh hxp
          have hxk : (x : Int) < (k : Int) := by omega
          have Hm : Hid (p.length = m + 1) := hm
          have HF : Hid (x ∉ dn) := hfx.2
          clear hx hm hheap hpI hplen hfx
          go_wp2_with fail
          refine HN.mono ?_
          rintro e w2 ⟨rfl, hw2⟩
          subst hw2
          clear HN
          go_wp2_with fail
          refine HP.mono ?_
          rintro e w3 ⟨p3, v3, rfl, hq3, hv3, hp3, hh3, hf3, hk3⟩
          clear HP
          have hsus := hq3.sus x (by omega)
          have c45 := hsus.cellS 45 (.int .i64 x) rfl
          have hseen := hL.seenPop hk3
          have cs : w3.cell? ⟨sb, x, none⟩ = some (.bool false) := by
            rw [cell_of_row w3 sb x _ 4 (0, 0) hseen, seen_at _ _ _ (by omega)]
            have := HF.out
            simp [this]
          have fs : w3.frozen? ⟨sb, x, none⟩ = false := frozen_of_row w3 sb x _ 4 hseen
          have hb3 := hL.belowPop hk3
          have ct : w3.cell? ⟨b, off + x, none⟩ = some (.int .i16 (zs.getD x 0)) := (hb3.cell (p := ⟨b, off + x, none⟩) hbB).trans (Hc.out x (by omega))
          have hzx := Hz.out x
          have hbs : b ≠ sb := by omega
          have hSs : S x ≠ sb := by
            intro e
            have h1 := hsus.hS
            rw [e, hseen] at h1
            simp at h1
          have k6 := tAss
          have HNX : Hid _ := hL.next hxp hq3 hp3 m Hm.out hh3 hf3 hk3 hs1
          have HT : Hid _ := fun h => hL.test (x := x) hxp h
          obtain ⟨T, hT⟩ : ∃ T, tOf zs x = T := ⟨_, rfl⟩
          rw [hT] at HNX HT
          rw [show zs.getD x 0 = T from hT] at ct hzx
          clear hL hsus hseen hb3 hq3 hv3 hp3 hh3 hf3 hk3 Hm HF hT
          by_cases h0 : 0 < kk
          · have ht := HT.out h0
            have h0I : (0 : Int) < (kk : Int) := by omega
            have d1 : decide (a < T) = false := by simp; omega
            by_cases hTa : T = a
            · have d2 : (T == a) = true := by simpa using hTa
              have d3 : decide ((x : Int) < c) = false := by simp; have := ht.2 hTa; omega
              clear ht HT hTa
              go_wp2
              go_roundw
              case rel => exact ⟨kk + 1, p3, x :: dn, v3, T, x, rfl, rfl, by go_num, by omega, HNX.out⟩
              case measure => simp [intOf]; omega
            · have d2 : (T == a) = false := by simpa using hTa
              clear ht HT hTa
              go_wp2
              go_roundw
              case rel => exact ⟨kk + 1, p3, x :: dn, v3, T, x, rfl, rfl, by go_num, by omega, HNX.out⟩
              case measure => simp [intOf]; omega
          · have h0I : ¬ (0 : Int) < (kk : Int) := by omega
            clear HT
            go_wp2
            go_roundw
            case rel => exact ⟨kk + 1, p3, x :: dn, v3, T, x, rfl, rfl, by go_num, by omega, HNX.out⟩
            case measure => simp [intOf]; omega
        · have hkz : (p.length : Int) = 0 := by omega
          rw [← hpI, hkz] at HN
          have hbb := hL.below
          clear hpI hkz hplen hL
          go_wp2_with fail
          refine HN.mono ?_
          rintro e w2 ⟨rfl, hw2⟩
          subst hw2
          go_wp2
          go_ret
          exact ⟨rfl, hbb⟩

set_option maxHeartbeats 400000 in
theorem pops_big (ao : Option Addr) (len cap : Nat) (w : World) (_hlen : 512 < (len : Int)) :
    Calls Yba.prog 4 #[.slice ao len cap] w fun e w' => e = .returned (.bool true) ∧ Below w.heap.size w w' := by
  go_enter Yba.func4, Yba.ntmps4
  go_wp2
  go_ret
  exact ⟨rfl, Below.refl _ _⟩

end Go.Proofs.Ybulkwzq
