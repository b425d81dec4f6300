/-
  No cell of these rows narrows 'for every input' (looked for: loops, veiled, ifaces, maps, wideKeys, modest, calm, conditions, laid).
  DERIVED. THE GIVEN ROWS OF THIS SEAT. 2 by the template 'for every input the law returns true; each argument reads behind the call as it read before'; 0 by the template 'total and deterministic' (their statements: YbulkxasTotals.lean).
  GIVEN WITH THE SEED: the statements are not yours to turn. If you find one false, say at which input.
  Laid BY PROGRAM, IN A SANDBOX (cutbox-rows.mjs): the forced cells as the released guide's own fill.sh prints them over the translation 0ff3e24adb49ba3b… (all of the seat's roots in one cut). By AI agents, Wed Nov 11 2026. No macro, syntax, notation, axiom, sorry.
-/
import Derived.Test.YbulkxasChecked
import GoSem.Claim
import GoSem.ClaimJoined
import GoSem.ClaimMapViews
import Derived.JoinedTies
import Derived.KernelRfl
namespace Go.Proofs.Ybulkxas
/- THE CELL 'sum', in the pinned program and in every row, IS THE sha256 OF THE DUMP (.gsa) THAT YbulkxasProg.lean LOADS. Nothing in Lean hashes anything: it is a label: what it is worth is what the hold of that sum in a sandbox is worth. -/
noncomputable def Yba.pinned : Pinned := { name := "ybulkxas", sum := "0ff3e24adb49ba3b075e34c9b03dbea45f5d530506d72ea0ebda9161c3db134d", checked := Yba.checked }
namespace Rows
def none {H : Type} : Left H := { results := [], args := [] }

/-- 'sigilwire.LawS1162CModel': WHATEVER THE INPUT: true; the input reads as it did. -/
def lawS1162CModelSpec : ChangeSpec := { name := "lawS1162CModel", fn := fun _ => fun
  | [d1, d2, d3] => { results := [.lit (.bool true)], args := [d1, d2, d3] }
  | _ => none }
def lawS1162CModelRow : OpenClaim := { program := "ybulkxas", sum := "0ff3e24adb49ba3b075e34c9b03dbea45f5d530506d72ea0ebda9161c3db134d", func := "example.com/sigilwire/sigilwire.LawS1162CModel", spec := "lawS1162CModel", apart := false }
def LawS1162CModelSaid : Prop := lawS1162CModelRow.holds Yba.pinned (OpenSpec.ofChange lawS1162CModelSpec)

/-- ITS FALSE NEIGHBOUR: 'it returns false'. Refute it at one input. -/
def lawS1162CModelWrong : ChangeSpec := { name := "lawS1162CModel", fn := fun _ => fun
  | [d1, d2, d3] => { results := [.lit (.bool false)], args := [d1, d2, d3] }
  | _ => none }
def LawS1162CModelWrongFalsely : Prop := lawS1162CModelRow.holds Yba.pinned (OpenSpec.ofChange lawS1162CModelWrong)

/-- 'sigilwire.LawS1162CPrefix': WHATEVER THE INPUT: true; the input reads as it did. -/
def lawS1162CPrefixSpec : ChangeSpec := { name := "lawS1162CPrefix", fn := fun _ => fun
  | [d1, d2, d3] => { results := [.lit (.bool true)], args := [d1, d2, d3] }
  | _ => none }
def lawS1162CPrefixRow : OpenClaim := { program := "ybulkxas", sum := "0ff3e24adb49ba3b075e34c9b03dbea45f5d530506d72ea0ebda9161c3db134d", func := "example.com/sigilwire/sigilwire.LawS1162CPrefix", spec := "lawS1162CPrefix", apart := false }
def LawS1162CPrefixSaid : Prop := lawS1162CPrefixRow.holds Yba.pinned (OpenSpec.ofChange lawS1162CPrefixSpec)

/-- ITS FALSE NEIGHBOUR: 'it returns false'. Refute it at one input. -/
def lawS1162CPrefixWrong : ChangeSpec := { name := "lawS1162CPrefix", fn := fun _ => fun
  | [d1, d2, d3] => { results := [.lit (.bool false)], args := [d1, d2, d3] }
  | _ => none }
def LawS1162CPrefixWrongFalsely : Prop := lawS1162CPrefixRow.holds Yba.pinned (OpenSpec.ofChange lawS1162CPrefixWrong)

end Rows
end Go.Proofs.Ybulkxas
