import Derived.Test.YbulkxasRows
import Derived.WalkKit
import Derived.WalkSpells
import Derived.WalkLawsBesides
import Derived.Laws.BytesArg
import Derived.Deep.QuietTactic
import Derived.BigQuiet
namespace Go.Proofs.Ybulkxas
open Go.RowKit

/-- The two worlds part in their count of draws alone. -/
def Same (w' w : World) : Prop := w'.heap = w.heap ∧ w'.os = w.os ∧ w'.tape = w.tape ∧ w'.output = w.output
theorem Same.below {w' w x : World} {B : Nat} (h : Same w' w) (hb : Below B x w) : Below B x w' :=
  ⟨h.2.1.trans hb.os, h.2.2.1.trans hb.tape, h.2.2.2.trans hb.output, by rw [h.1]; exact hb.size, fun k hk => by rw [h.1]; exact hb.block k hk⟩
theorem Same.cell {w' w : World} (h : Same w' w) (a : Addr) : w'.cell? a = w.cell? a := World.cell?_of_block (by rw [h.1])
theorem Same.frozen {w' w : World} (h : Same w' w) (a : Addr) : w'.frozen? a = w.frozen? a := World.frozen?_of_block (by rw [h.1])

/-- The bytes of the text from o on, n of them, as a string. -/
def cutS (zs : List Int) (o n : Nat) : ByteArray := strOfNums ((zs.drop o).take n)

theorem conv_zero (a : Option Addr) (c : Nat) (w : World) : (convert 22 9 (.slice a 0 c)).run Yba.prog w = .ok (.string ⟨#[]⟩) w := by
  rw [run_convert_bytes_string w 22 9 5 a 0 c Yba.underlying22 Yba.underlying5 Yba.underlying9]
  cases a with
  | none => rfl
  | some a => exact run_bytesToString w a 0 c [] (by simp [loadCells, loadCellsFrom])

theorem conv_cut (b off len cap o n : Nat) (zs : List Int) (w : World) (hn : o + n ≤ len) (hz : len ≤ zs.length) (hc : ∀ j, j < len → w.cell? ⟨b, off + j, none⟩ = some (.int .u8 (zs.getD j 0))) :
    (convert 22 9 (.slice (some ⟨b, off + o, none⟩) n (cap - o))).run Yba.prog w = .ok (.string (cutS zs o n)) w := by
  refine run_convert_bytes_arg w 22 5 Yba.underlying22 Yba.underlying5 b (off + o) n (cap - o) ((zs.drop o).take n) (by simp; omega) (fun i hi => ?_) 9 Yba.underlying9
  rw [show off + o + i = off + (o + i) from by omega, hc (o + i) (by omega)]
  congr 2
  rw [List.getD_eq_getElem?_getD, List.getD_eq_getElem?_getD, List.getElem?_take, if_pos hi, List.getElem?_drop]

set_option maxHeartbeats 400000 in
theorem skip_short (R o len cap : Nat) (ao : Option Addr) (s : ByteArray) (w : World) (h0 : w.cell? ⟨R, 0, none⟩ = some (.slice ao len cap)) (h1 : w.cell? ⟨R, 1, none⟩ = some (.int .i64 o)) (hol : o ≤ len) (_hlen : len ≤ 4096) (hs : s.size ≤ 4096) (hlt : (len : Int) - (o : Int) < (s.size : Int)) :
    Calls Yba.prog 6 #[.pointer (some ⟨R, 0, none⟩), .string s] w fun e w' => e = .returned (.bool false) ∧ Same w' w := by
  have hd : decide ((len : Int) - (o : Int) < (s.size : Int)) = true := by simpa using hlt
  go_enter Yba.func6, Yba.ntmps6
  go_wp2_with fail
  go_quiet (fail)
  go_wp2
  go_ret
  exact ⟨rfl, rfl, rfl, rfl, rfl⟩

set_option maxHeartbeats 400000 in
theorem skip_zero (R o len cap : Nat) (ao : Option Addr) (w : World) (h0 : w.cell? ⟨R, 0, none⟩ = some (.slice ao len cap)) (h1 : w.cell? ⟨R, 1, none⟩ = some (.int .i64 o)) (hf : w.frozen? ⟨R, 1, none⟩ = false) (hol : o ≤ len) (hlc : len ≤ cap) (hlen : len ≤ 4096) :
    Calls Yba.prog 6 #[.pointer (some ⟨R, 0, none⟩), .string ⟨#[]⟩] w fun e w' => e = .returned (.bool true) ∧ Same w' (w.setCell ⟨R, 1, none⟩ (.int .i64 o)) := by
  have hd : decide ((len : Int) - (o : Int) < 0) = false := by simp; omega
  have kc := conv_zero
  go_enter Yba.func6, Yba.ntmps6
  go_wp2_with fail
  go_quiet (fail)
  go_wp2
  all_goals
    go_ret
    exact ⟨rfl, rfl, rfl, rfl, rfl⟩

section
variable (R o b off len cap : Nat) (zs : List Int) (s : ByteArray) (w : World)

set_option maxHeartbeats 400000 in
theorem skip_yes (h0 : w.cell? ⟨R, 0, none⟩ = some (.slice (some ⟨b, off, none⟩) len cap)) (h1 : w.cell? ⟨R, 1, none⟩ = some (.int .i64 o)) (hf : w.frozen? ⟨R, 1, none⟩ = false) (hlc : len ≤ cap) (hlen : len ≤ 4096) (hz : len ≤ zs.length)
    (hc : ∀ j, j < len → w.cell? ⟨b, off + j, none⟩ = some (.int .u8 (zs.getD j 0))) (hp : 0 < s.size) (hle : o + s.size ≤ len) (he : ((cutS zs o s.size).toList == s.toList) = true) :
    Calls Yba.prog 6 #[.pointer (some ⟨R, 0, none⟩), .string s] w fun e w' => e = .returned (.bool true) ∧ Same w' (w.setCell ⟨R, 1, none⟩ (.int .i64 ((o : Int) + (s.size : Int)))) := by
  have hd : decide ((len : Int) - (o : Int) < (s.size : Int)) = false := by simp; omega
  have kc : ∀ n, (convert 22 9 (.slice (some ⟨b, off + o, none⟩) s.size (cap - o))).run Yba.prog (w.drewN n) = .ok (.string (cutS zs o s.size)) (w.drewN n) := fun n => conv_cut b off len cap o s.size zs (w.drewN n) hle hz hc
  have hne : ¬ cap = o := by omega
  have e1 : ((o : Int) + (s.size : Int)).toNat - o = s.size := by omega
  have hcapI : (o : Int) + (s.size : Int) ≤ (cap : Int) := by omega
  clear hc hz
  go_enter Yba.func6, Yba.ntmps6
  go_wp2_with fail
  go_quiet (fail)
  go_wp2
  go_ret
  exact ⟨rfl, rfl, rfl, rfl, rfl⟩

set_option maxHeartbeats 400000 in
theorem skip_no (h0 : w.cell? ⟨R, 0, none⟩ = some (.slice (some ⟨b, off, none⟩) len cap)) (h1 : w.cell? ⟨R, 1, none⟩ = some (.int .i64 o)) (hlc : len ≤ cap) (hlen : len ≤ 4096) (hz : len ≤ zs.length)
    (hc : ∀ j, j < len → w.cell? ⟨b, off + j, none⟩ = some (.int .u8 (zs.getD j 0))) (hp : 0 < s.size) (hle : o + s.size ≤ len) (he : ((cutS zs o s.size).toList == s.toList) = false) :
    Calls Yba.prog 6 #[.pointer (some ⟨R, 0, none⟩), .string s] w fun e w' => e = .returned (.bool false) ∧ Same w' w := by
  have hd : decide ((len : Int) - (o : Int) < (s.size : Int)) = false := by simp; omega
  have kc : ∀ n, (convert 22 9 (.slice (some ⟨b, off + o, none⟩) s.size (cap - o))).run Yba.prog (w.drewN n) = .ok (.string (cutS zs o s.size)) (w.drewN n) := fun n => conv_cut b off len cap o s.size zs (w.drewN n) hle hz hc
  have hne : ¬ cap = o := by omega
  have e1 : ((o : Int) + (s.size : Int)).toNat - o = s.size := by omega
  have hcapI : (o : Int) + (s.size : Int) ≤ (cap : Int) := by omega
  clear hc hz
  go_enter Yba.func6, Yba.ntmps6
  go_wp2_with fail
  go_quiet (fail)
  go_wp2
  go_ret
  exact ⟨rfl, rfl, rfl, rfl, rfl⟩
end

set_option maxHeartbeats 400000 in
theorem clamp_any (ao : Option Addr) (len cap : Nat) (x : Int) (w : World) (hlen : len ≤ 4096) (h0 : 0 ≤ x) (h1 : x ≤ 65535) :
    Calls Yba.prog 5 #[.slice ao len cap, .int .u16 x] w fun e w' => ∃ o : Nat, o ≤ len ∧ e = .returned (.int .i64 o) ∧ w' = w := by
  obtain ⟨o, ho⟩ : ∃ o : Nat, x % ((len : Int) + 1) = (o : Int) := ⟨(x % ((len : Int) + 1)).toNat, by rw [Int.toNat_of_nonneg (Int.emod_nonneg _ (by omega))]⟩
  have hol : o ≤ len := by have := Int.emod_lt_of_pos x (show (0 : Int) < (len : Int) + 1 by omega); omega
  go_enter Yba.func5, Yba.ntmps5
  go_wp2
  go_ret
  exact ⟨o, hol, by rw [← ho]; rfl, rfl⟩

end Go.Proofs.Ybulkxas
