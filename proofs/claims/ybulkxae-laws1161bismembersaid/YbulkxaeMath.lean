import Derived.Test.YbulkxaeRows
import Derived.WalkKit
import Derived.WalkSpells
import Derived.WalkLawsBesides
import Derived.Maps.OwnSet
import Derived.Maps.StringElems
import Derived.StringKeys
namespace Go.Proofs.Ybulkxae
open Go.RowKit Go.Maps

/-- A string as a key, as a datum. -/
def keyL (s : ByteArray) : Lit := .string s.data.toList
def strD (s : ByteArray) : DataW Unit := .lit (.string s.data.toList)

/-- The map that 'zzs1161bbuild' has made behind k rounds. -/
def dOf (kf vf : Nat → ByteArray) : Nat → DataW Unit
  | 0 => .map []
  | k + 1 => (dOf kf vf k).put (keyL (kf k)) (strD (vf k))

/-- The last index below k whose key is m. -/
def findL (kf : Nat → ByteArray) (m : ByteArray) : Nat → Option Nat
  | 0 => none
  | k + 1 => if kf k = m then some k else findL kf m k

theorem keyL_inj {a b : ByteArray} (h : keyL a = keyL b) : a = b := by
  unfold keyL at h
  have h1 : a.data.toList = b.data.toList := by injection h
  have h2 : a.data = b.data := Array.toList_inj.1 h1
  cases a; cases b; simp_all

theorem isMap_dOf (kf vf : Nat → ByteArray) : ∀ k, IsMap (dOf kf vf k)
  | 0 => isMap_empty
  | k + 1 => (isMap_dOf kf vf k).put _ _

theorem isKeyLit_keyL (s : ByteArray) : WideAt.IsKeyLit (keyL s) := by
  unfold keyL
  first | exact trivial | simp [WideAt.IsKeyLit]

theorem look_dOf (kf vf : Nat → ByteArray) (m : ByteArray) : ∀ k, Maps.has (dOf kf vf k) (keyL m) = (findL kf m k).isSome ∧ ∀ z, (dOf kf vf k).atKey (keyL m) z = (match findL kf m k with | some i => strD (vf i) | none => z) := by
  intro k
  induction k with
  | zero => exact ⟨rfl, fun z => rfl⟩
  | succ k ih =>
    unfold dOf findL
    by_cases e : kf k = m
    · subst e
      rw [if_pos rfl]
      exact ⟨has_put_same (isMap_dOf kf vf k) (isKeyLit_keyL _) _, fun z => atKey_put_same (isMap_dOf kf vf k) (isKeyLit_keyL _) _ _⟩
    · rw [if_neg e]
      have hne : keyL m ≠ keyL (kf k) := fun h => e (keyL_inj h).symm
      exact ⟨by rw [has_put_other hne]; exact ih.1, fun z => by rw [atKey_put_other hne]; exact ih.2 z⟩

/-- What the model answers. -/
def modelS (kf vf : Nat → ByteArray) (m : ByteArray) (n : Nat) : ByteArray := match findL kf m n with | some i => vf i | none => ⟨#[]⟩
def modelB (kf : Nat → ByteArray) (m : ByteArray) (n : Nat) : Bool := (findL kf m n).isSome

theorem strD_inj {a b : ByteArray} (h : strD a = strD b) : a = b := by
  unfold strD at h
  have h1 : Lit.string a.data.toList = Lit.string b.data.toList := by injection h
  exact keyL_inj h1

theorem model_look (kf vf : Nat → ByteArray) (m s : ByteArray) (n : Nat) (h : (dOf kf vf n).atKey (keyL m) (strD ⟨#[]⟩) = strD s) : s = modelS kf vf m n := by
  rw [(look_dOf kf vf m n).2] at h
  unfold modelS
  cases hf : findL kf m n with
  | none => rw [hf] at h; exact (strD_inj h).symm
  | some i => rw [hf] at h; exact (strD_inj h).symm

theorem findL_below (kf : Nat → ByteArray) (m : ByteArray) (k : Nat) : ∀ n, k ≤ n → (∀ i, k ≤ i → i < n → kf i ≠ m) → findL kf m n = findL kf m k := by
  intro n hn
  induction n with
  | zero => intro _; have : k = 0 := by omega
            subst this; rfl
  | succ n ih =>
    intro h
    by_cases e : k = n + 1
    · rw [e]
    · rw [findL, if_neg (h n (by omega) (by omega))]
      exact ih (by omega) (fun i h1 h2 => h i h1 (by omega))

end Go.Proofs.Ybulkxae
