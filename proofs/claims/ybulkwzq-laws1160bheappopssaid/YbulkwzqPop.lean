import Derived.Test.YbulkwzqSus
import Derived.RegionTactic
import Derived.BigRegion
namespace Go.Proofs.Ybulkwzq
open Go.RowKit

theorem del_nil (ty : TypeId) (w : World) : (Builtin.delete_ #[26, 89] ty #[.map none, .agg #[.int .u8 0, .int .u8 0, .int .u8 0, .int .u8 0, .int .u8 0, .int .u8 0, .int .u8 0, .int .u8 0, .int .u8 0, .int .u8 0, .int .u8 0, .int .u8 0, .int .u8 0, .int .u8 0, .int .u8 0, .int .u8 0, .int .u8 0, .int .u8 0, .int .u8 0, .int .u8 0, .string ⟨#[]⟩]]).run Yba.prog w = .ok (.tuple #[]) w := by kernel_rfl


theorem quiet_load {P : Program} {ops : Array Oper} {C : World → Prop} {Q : Act → Prop} {a : Act} {o : Oper} {rest : List Oper} (hgd : o.guard = none) (ty : TypeId) (x : Operand) (ho : o.op = .load ty x) (ad : Addr) (hx : a.eval x = .pointer (some ad)) (v : Value)
    (hrun : ∀ w, C w → (loadVar ty ad).run P w = .ok v w) (h : wpQuiet P ops C Q rest (a.put o.dst v)) : wpQuiet P ops C Q (o :: rest) a :=
  wpQuiet_step fun K hK => by
    rw [if_pos (by simp [Region.wanted, hgd])]
    refine ⟨v, fun w hw => ?_, hK _ h⟩
    unfold Oper.quietAt execOp
    simp only [ho, hx, Instr.loadAt, Instr.sureAddr, Sem.run_bind, Sem.run_pure, Result.andThen_ok, hrun w hw]
    exact ⟨rfl, rfl⟩

theorem load_id {S C : Nat} {d seq : Int} {w : World} (h : Sus S C d seq w) : (loadVar 39 ⟨S, 0, none⟩).run Yba.prog w = .ok (.agg #[.int .u8 0, .int .u8 0, .int .u8 0, .int .u8 0, .int .u8 0, .int .u8 0, .int .u8 0, .int .u8 0, .int .u8 0, .int .u8 0, .int .u8 0, .int .u8 0, .int .u8 0, .int .u8 0, .int .u8 0, .int .u8 0, .int .u8 0, .int .u8 0, .int .u8 0, .int .u8 0]) w := by
  have hl : (loadCells ⟨S, 0, none⟩ 20).run Yba.prog w = .ok (List.replicate 20 (Value.int .u8 0)).toArray w := by
    have := run_loadCells_list (P := Yba.prog) w ⟨S, 0, none⟩ (List.replicate 20 (Value.int .u8 0)) (fun j v hv => by
      have hadd : (⟨S, 0, none⟩ : Addr).add j = ⟨S, j, none⟩ := by unfold Addr.add; split <;> simp_all
      rw [hadd]
      have hj : j < 20 := by
        have := (List.getElem?_eq_some_iff.1 hv).1
        simpa using this
      have hv' : v = .int .u8 0 := by
        rw [List.getElem?_replicate] at hv
        simp only [hj, if_true, Option.some.injEq] at hv
        exact hv.symm
      subst hv'
      refine h.cellS j _ ?_
      match j, hj with
      | 0, _ | 1, _ | 2, _ | 3, _ | 4, _ | 5, _ | 6, _ | 7, _ | 8, _ | 9, _ | 10, _ | 11, _ | 12, _ | 13, _ | 14, _ | 15, _ | 16, _ | 17, _ | 18, _ | 19, _ => rfl
      | j + 20, hj => omega)
    simpa using this
  have hagg : (isAgg 39).run Yba.prog w = .ok true w := by kernel_rfl
  have hsz : (sizeOf 39).run Yba.prog w = .ok 20 w := by kernel_rfl
  unfold loadVar
  simp only [Sem.run_bind, hagg, Result.andThen_ok, if_true, hsz, hl, Sem.run_pure]
  rfl

theorem sus_drewN {S C : Nat} {d seq : Int} {w : World} (h : Sus S C d seq w) (n : Nat) : Sus S C d seq (w.drewN n) := ⟨h.hS, h.hC⟩

set_option maxHeartbeats 1000000 in
theorem pop_raw (qb g m cap Sx Cx : Nat) (d seq : Int) (w : World)
    (hq : w.cell? ⟨qb, 0, none⟩ = some (.slice (some ⟨g, 0, none⟩) (m + 1) cap)) (hq1 : w.cell? ⟨qb, 1, none⟩ = some (.map none)) (hcap : m + 1 ≤ cap) (hm : m ≤ 1024) (hgq : qb ≠ g) (hgS : Sx ≠ g) (hqS : Sx ≠ qb) (hgC : Cx ≠ g) (hqC : Cx ≠ qb)
    (cx : w.cell? ⟨g, m, none⟩ = some (.pointer (some ⟨Sx, 0, none⟩))) (hsx : Sus Sx Cx d seq w) (hf : ∀ o, w.frozen? ⟨g, o, none⟩ = false) (hfq : ∀ o, w.frozen? ⟨qb, o, none⟩ = false) :
    Calls Yba.prog 34 #[.pointer (some ⟨qb, 0, none⟩)] w fun e w' => e = .returned (.iface 23 (.pointer (some ⟨Sx, 0, none⟩))) ∧ Same w' ((w.setCell ⟨g, m, none⟩ (.pointer none)).setCell ⟨qb, 0, none⟩ (.slice (some ⟨g, 0, none⟩) m cap)) := by
  have s21 := hsx.cellS 21 (.string ⟨#[]⟩) rfl
  have kd := del_nil
  have hmI : (m : Int) < (m : Int) + 1 := by omega
  have HSX : Hid (Sus Sx Cx d seq w) := hsx
  clear hsx
  go_enter Yba.func34, Yba.ntmps34
  go_wp2_with fail
  go_quiet (fail)
  go_wp2_with fail
  go_region
  go_wp2_with fail
  go_region
  go_wp2_with fail
  generalize hwq : (((w.drewN (nq + 1)).setCell ⟨g, m, none⟩ (Value.pointer none)).setCell ⟨qb, 0, none⟩ (Value.slice (some ⟨g, 0, none⟩) m cap)).drew = wq
  have hk : ∀ o, wq.cell? ⟨Sx, o, none⟩ = w.cell? ⟨Sx, o, none⟩ := by
    intro o
    rw [← hwq]
    show (((w.drewN (nq + 1)).setCell ⟨g, m, none⟩ (Value.pointer none)).setCell ⟨qb, 0, none⟩ (Value.slice (some ⟨g, 0, none⟩) m cap)).cell? ⟨Sx, o, none⟩ = _
    rw [World.cell?_setCell_other _ ⟨qb, 0, none⟩ ⟨Sx, o, none⟩ _ (fun e => hqS (congrArg Addr.block e).symm), World.cell?_setCell_other _ ⟨g, m, none⟩ ⟨Sx, o, none⟩ _ (fun e => hgS (congrArg Addr.block e).symm)]
    rfl
  have hk1 : wq.cell? ⟨qb, 1, none⟩ = some (.map none) := by
    rw [← hwq]
    show (((w.drewN (nq + 1)).setCell ⟨g, m, none⟩ (Value.pointer none)).setCell ⟨qb, 0, none⟩ (Value.slice (some ⟨g, 0, none⟩) m cap)).cell? ⟨qb, 1, none⟩ = _
    rw [World.cell?_setCell_other _ ⟨qb, 0, none⟩ ⟨qb, 1, none⟩ _ (fun e => absurd (congrArg Addr.off e) (by simp)), World.cell?_setCell_other _ ⟨g, m, none⟩ ⟨qb, 1, none⟩ _ (fun e => hgq (congrArg Addr.block e).symm)]
    exact hq1
  have HWQ : Hid _ := hwq
  have hsq : Sus Sx Cx d seq wq := by
    rw [← hwq]
    refine ⟨?_, ?_⟩
    · show (((w.drewN (nq + 1)).setCell ⟨g, m, none⟩ (Value.pointer none)).setCell ⟨qb, 0, none⟩ (Value.slice (some ⟨g, 0, none⟩) m cap)).heap[Sx]? = _
      rw [Below.heap_setCell _ ⟨qb, 0, none⟩ _ _ hqS, Below.heap_setCell _ ⟨g, m, none⟩ _ _ hgS]
      exact HSX.out.hS
    · show (((w.drewN (nq + 1)).setCell ⟨g, m, none⟩ (Value.pointer none)).setCell ⟨qb, 0, none⟩ (Value.slice (some ⟨g, 0, none⟩) m cap)).heap[Cx]? = _
      rw [Below.heap_setCell _ ⟨qb, 0, none⟩ _ _ hqC, Below.heap_setCell _ ⟨g, m, none⟩ _ _ hgC]
      exact HSX.out.hC
  clear hwq hq hq1 cx hf hfq
  refine wp_region_quiet_lit (by kernel_rfl) (by kernel_rfl) ?_
  iterate 8 (go_big_quiet_step (fail))
  refine quiet_load rfl 39 (.tmp 48) rfl ⟨Sx, 0, none⟩ rfl _ (fun w' hw' => by obtain ⟨n, rfl⟩ := hw'; exact load_id (sus_drewN hsq n)) ?_
  simp only [Act.put, List.setIfInBounds_toArray, List.set_cons_succ, List.set_cons_zero]
  iterate 7 (go_big_quiet_step (fail))
  refine wpQuiet_nil ?_
  intro _ hw'
  obtain ⟨n2, hw''⟩ := hw'
  subst hw''
  go_wp2
  go_ret
  refine ⟨rfl, ?_⟩
  rw [← HWQ.out]
  exact ⟨rfl, rfl, rfl, rfl⟩

end Go.Proofs.Ybulkwzq
