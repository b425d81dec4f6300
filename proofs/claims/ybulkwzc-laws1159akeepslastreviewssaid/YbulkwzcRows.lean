/-
  No cell of these rows narrows 'for every input' (looked for: loops, veiled, ifaces, maps, wideKeys, modest, calm, conditions, laid).
  DERIVED. THE GIVEN ROWS OF THIS SEAT. 2 by the template 'for every input the law returns true; each argument reads behind the call as it read before'; 0 by the template 'total and deterministic' (their statements: YbulkwzcTotals.lean).
  GIVEN WITH THE SEED: the statements are not yours to turn. If you find one false, say at which input.
  Laid BY PROGRAM, IN A SANDBOX (cutbox-rows.mjs): the forced cells as the released guide's own fill.sh prints them over the translation 52a5c95bbc368a61… (all of the seat's roots in one cut). By AI agents, Wed Nov 11 2026. No macro, syntax, notation, axiom, sorry.
-/
import Derived.Test.YbulkwzcChecked
import GoSem.Claim
import GoSem.ClaimJoined
import GoSem.ClaimMapViews
import Derived.JoinedTies
import Derived.KernelRfl
namespace Go.Proofs.Ybulkwzc
/- THE CELL 'sum', in the pinned program and in every row, IS THE sha256 OF THE DUMP (.gsa) THAT YbulkwzcProg.lean LOADS. Nothing in Lean hashes anything: it is a label: what it is worth is what the hold of that sum in a sandbox is worth. -/
noncomputable def Yba.pinned : Pinned := { name := "ybulkwzc", sum := "52a5c95bbc368a61564603d04dd208baec5561a4ec16e3b840e95154eb44e900", checked := Yba.checked }
namespace Rows
def none {H : Type} : Left H := { results := [], args := [] }

/-- 'books.LawS1159AKeepsLastReviews': WHATEVER THE INPUT: true; the input reads as it did. -/
def lawS1159AKeepsLastReviewsSpec : ChangeSpec := { name := "lawS1159AKeepsLastReviews", fn := fun _ => fun
  | [d1, d2, d3, d4, d5, d6] => { results := [.lit (.bool true)], args := [d1, d2, d3, d4, d5, d6] }
  | _ => none }
def lawS1159AKeepsLastReviewsRow : OpenClaim := { program := "ybulkwzc", sum := "52a5c95bbc368a61564603d04dd208baec5561a4ec16e3b840e95154eb44e900", func := "example.com/custodex/custodex/internal/books.LawS1159AKeepsLastReviews", spec := "lawS1159AKeepsLastReviews", apart := false }
def LawS1159AKeepsLastReviewsSaid : Prop := lawS1159AKeepsLastReviewsRow.holds Yba.pinned (OpenSpec.ofChange lawS1159AKeepsLastReviewsSpec)

/-- ITS FALSE NEIGHBOUR: 'it returns false'. Refute it at one input. -/
def lawS1159AKeepsLastReviewsWrong : ChangeSpec := { name := "lawS1159AKeepsLastReviews", fn := fun _ => fun
  | [d1, d2, d3, d4, d5, d6] => { results := [.lit (.bool false)], args := [d1, d2, d3, d4, d5, d6] }
  | _ => none }
def LawS1159AKeepsLastReviewsWrongFalsely : Prop := lawS1159AKeepsLastReviewsRow.holds Yba.pinned (OpenSpec.ofChange lawS1159AKeepsLastReviewsWrong)

/-- 'books.LawS1159ANothingLeftToLog': WHATEVER THE INPUT: true; the input reads as it did. -/
def lawS1159ANothingLeftToLogSpec : ChangeSpec := { name := "lawS1159ANothingLeftToLog", fn := fun _ => fun
  | [d1, d2, d3] => { results := [.lit (.bool true)], args := [d1, d2, d3] }
  | _ => none }
def lawS1159ANothingLeftToLogRow : OpenClaim := { program := "ybulkwzc", sum := "52a5c95bbc368a61564603d04dd208baec5561a4ec16e3b840e95154eb44e900", func := "example.com/custodex/custodex/internal/books.LawS1159ANothingLeftToLog", spec := "lawS1159ANothingLeftToLog", apart := false }
def LawS1159ANothingLeftToLogSaid : Prop := lawS1159ANothingLeftToLogRow.holds Yba.pinned (OpenSpec.ofChange lawS1159ANothingLeftToLogSpec)

/-- ITS FALSE NEIGHBOUR: 'it returns false'. Refute it at one input. -/
def lawS1159ANothingLeftToLogWrong : ChangeSpec := { name := "lawS1159ANothingLeftToLog", fn := fun _ => fun
  | [d1, d2, d3] => { results := [.lit (.bool false)], args := [d1, d2, d3] }
  | _ => none }
def LawS1159ANothingLeftToLogWrongFalsely : Prop := lawS1159ANothingLeftToLogRow.holds Yba.pinned (OpenSpec.ofChange lawS1159ANothingLeftToLogWrong)

end Rows
end Go.Proofs.Ybulkwzc
