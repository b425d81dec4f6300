/-
  No cell of these rows narrows 'for every input' (looked for: loops, veiled, ifaces, maps, wideKeys, modest, calm, conditions, laid).
  DERIVED. THE GIVEN ROWS OF THIS SEAT. 2 by the template 'for every input the law returns true; each argument reads behind the call as it read before'; 0 by the template 'total and deterministic' (their statements: YbulkxaeTotals.lean).
  GIVEN WITH THE SEED: the statements are not yours to turn. If you find one false, say at which input.
  Laid BY PROGRAM, IN A SANDBOX (cutbox-rows.mjs): the forced cells as the released guide's own fill.sh prints them over the translation b7c8a141c2e23562… (all of the seat's roots in one cut). By AI agents, Wed Nov 11 2026. No macro, syntax, notation, axiom, sorry.
-/
import Derived.Test.YbulkxaeChecked
import GoSem.Claim
import GoSem.ClaimJoined
import GoSem.ClaimMapViews
import Derived.JoinedTies
import Derived.KernelRfl
namespace Go.Proofs.Ybulkxae
/- THE CELL 'sum', in the pinned program and in every row, IS THE sha256 OF THE DUMP (.gsa) THAT YbulkxaeProg.lean LOADS. Nothing in Lean hashes anything: it is a label: what it is worth is what the hold of that sum in a sandbox is worth. -/
noncomputable def Yba.pinned : Pinned := { name := "ybulkxae", sum := "b7c8a141c2e2356287d33c2628c235c2edfc47150a3e45733ed2668896681ee0", checked := Yba.checked }
namespace Rows
def none {H : Type} : Left H := { results := [], args := [] }

/-- 'tender.LawS1161BLookup': WHATEVER THE INPUT: true; the input reads as it did. -/
def lawS1161BLookupSpec : ChangeSpec := { name := "lawS1161BLookup", fn := fun _ => fun
  | [d1, d2, d3, d4, d5] => { results := [.lit (.bool true)], args := [d1, d2, d3, d4, d5] }
  | _ => none }
def lawS1161BLookupRow : OpenClaim := { program := "ybulkxae", sum := "b7c8a141c2e2356287d33c2628c235c2edfc47150a3e45733ed2668896681ee0", func := "example.com/tenderbook/tenderbook/tender.LawS1161BLookup", spec := "lawS1161BLookup", apart := false }
def LawS1161BLookupSaid : Prop := lawS1161BLookupRow.holds Yba.pinned (OpenSpec.ofChange lawS1161BLookupSpec)

/-- ITS FALSE NEIGHBOUR: 'it returns false'. Refute it at one input. -/
def lawS1161BLookupWrong : ChangeSpec := { name := "lawS1161BLookup", fn := fun _ => fun
  | [d1, d2, d3, d4, d5] => { results := [.lit (.bool false)], args := [d1, d2, d3, d4, d5] }
  | _ => none }
def LawS1161BLookupWrongFalsely : Prop := lawS1161BLookupRow.holds Yba.pinned (OpenSpec.ofChange lawS1161BLookupWrong)

/-- 'tender.LawS1161BIsMember': WHATEVER THE INPUT: true; the input reads as it did. -/
def lawS1161BIsMemberSpec : ChangeSpec := { name := "lawS1161BIsMember", fn := fun _ => fun
  | [d1, d2, d3, d4] => { results := [.lit (.bool true)], args := [d1, d2, d3, d4] }
  | _ => none }
def lawS1161BIsMemberRow : OpenClaim := { program := "ybulkxae", sum := "b7c8a141c2e2356287d33c2628c235c2edfc47150a3e45733ed2668896681ee0", func := "example.com/tenderbook/tenderbook/tender.LawS1161BIsMember", spec := "lawS1161BIsMember", apart := false }
def LawS1161BIsMemberSaid : Prop := lawS1161BIsMemberRow.holds Yba.pinned (OpenSpec.ofChange lawS1161BIsMemberSpec)

/-- ITS FALSE NEIGHBOUR: 'it returns false'. Refute it at one input. -/
def lawS1161BIsMemberWrong : ChangeSpec := { name := "lawS1161BIsMember", fn := fun _ => fun
  | [d1, d2, d3, d4] => { results := [.lit (.bool false)], args := [d1, d2, d3, d4] }
  | _ => none }
def LawS1161BIsMemberWrongFalsely : Prop := lawS1161BIsMemberRow.holds Yba.pinned (OpenSpec.ofChange lawS1161BIsMemberWrong)

end Rows
end Go.Proofs.Ybulkxae
