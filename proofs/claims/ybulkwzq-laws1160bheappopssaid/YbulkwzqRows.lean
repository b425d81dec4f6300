/-
  No cell of these rows narrows 'for every input' (looked for: loops, veiled, ifaces, maps, wideKeys, modest, calm, conditions, laid).
  DERIVED. THE GIVEN ROWS OF THIS SEAT. 2 by the template 'for every input the law returns true; each argument reads behind the call as it read before'; 0 by the template 'total and deterministic' (their statements: YbulkwzqTotals.lean).
  GIVEN WITH THE SEED: the statements are not yours to turn. If you find one false, say at which input.
  Laid BY PROGRAM, IN A SANDBOX (cutbox-rows.mjs): the forced cells as the released guide's own fill.sh prints them over the translation 1c0860ea8bfa5658… (all of the seat's roots in one cut). By AI agents, Wed Nov 11 2026. No macro, syntax, notation, axiom, sorry.
-/
import Derived.Test.YbulkwzqChecked
import GoSem.Claim
import GoSem.ClaimJoined
import GoSem.ClaimMapViews
import Derived.JoinedTies
import Derived.KernelRfl
namespace Go.Proofs.Ybulkwzq
/- THE CELL 'sum', in the pinned program and in every row, IS THE sha256 OF THE DUMP (.gsa) THAT YbulkwzqProg.lean LOADS. Nothing in Lean hashes anything: it is a label: what it is worth is what the hold of that sum in a sandbox is worth. -/
noncomputable def Yba.pinned : Pinned := { name := "ybulkwzq", sum := "1c0860ea8bfa5658514ef1ad10e0949f4ae25aa1cdd6017dbc1f76e2b73d23d3", checked := Yba.checked }
namespace Rows
def none {H : Type} : Left H := { results := [], args := [] }

/-- 'culprit.LawS1160BOrder': WHATEVER THE INPUT: true; the input reads as it did. -/
def lawS1160BOrderSpec : ChangeSpec := { name := "lawS1160BOrder", fn := fun _ => fun
  | [d1, d2, d3, d4] => { results := [.lit (.bool true)], args := [d1, d2, d3, d4] }
  | _ => none }
def lawS1160BOrderRow : OpenClaim := { program := "ybulkwzq", sum := "1c0860ea8bfa5658514ef1ad10e0949f4ae25aa1cdd6017dbc1f76e2b73d23d3", func := "example.com/culprit/culprit.LawS1160BOrder", spec := "lawS1160BOrder", plainKeys := false, apart := false }
def LawS1160BOrderSaid : Prop := lawS1160BOrderRow.holds Yba.pinned (OpenSpec.ofChange lawS1160BOrderSpec)

/-- ITS FALSE NEIGHBOUR: 'it returns false'. Refute it at one input. -/
def lawS1160BOrderWrong : ChangeSpec := { name := "lawS1160BOrder", fn := fun _ => fun
  | [d1, d2, d3, d4] => { results := [.lit (.bool false)], args := [d1, d2, d3, d4] }
  | _ => none }
def LawS1160BOrderWrongFalsely : Prop := lawS1160BOrderRow.holds Yba.pinned (OpenSpec.ofChange lawS1160BOrderWrong)

/-- 'culprit.LawS1160BHeapPops': WHATEVER THE INPUT: true; the input reads as it did. -/
def lawS1160BHeapPopsSpec : ChangeSpec := { name := "lawS1160BHeapPops", fn := fun _ => fun
  | [d] => { results := [.lit (.bool true)], args := [d] }
  | _ => none }
def lawS1160BHeapPopsRow : OpenClaim := { program := "ybulkwzq", sum := "1c0860ea8bfa5658514ef1ad10e0949f4ae25aa1cdd6017dbc1f76e2b73d23d3", func := "example.com/culprit/culprit.LawS1160BHeapPops", spec := "lawS1160BHeapPops", unfollowed := true, recurses := true, plainKeys := false, apart := false }
def LawS1160BHeapPopsSaid : Prop := lawS1160BHeapPopsRow.holds Yba.pinned (OpenSpec.ofChange lawS1160BHeapPopsSpec)

/-- ITS FALSE NEIGHBOUR: 'it returns false'. Refute it at one input. -/
def lawS1160BHeapPopsWrong : ChangeSpec := { name := "lawS1160BHeapPops", fn := fun _ => fun
  | [d] => { results := [.lit (.bool false)], args := [d] }
  | _ => none }
def LawS1160BHeapPopsWrongFalsely : Prop := lawS1160BHeapPopsRow.holds Yba.pinned (OpenSpec.ofChange lawS1160BHeapPopsWrong)

end Rows
end Go.Proofs.Ybulkwzq
