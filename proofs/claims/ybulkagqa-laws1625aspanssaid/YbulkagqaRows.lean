/-
  No cell of these rows narrows 'for every input' (looked for: loops, veiled, ifaces, maps, wideKeys, modest, calm, conditions, laid).
  DERIVED. THE GIVEN ROWS OF THIS SEAT. 1 by the template 'for every input the law returns true; each argument reads behind the call as it read before'; 0 by the template 'total and deterministic' (their statements: YbulkagqaTotals.lean).
  GIVEN WITH THE SEED: the statements are not yours to turn. If you find one false, say at which input.
  Laid BY PROGRAM, IN A SANDBOX (cutbox-rows.mjs): the forced cells as the released guide's own fill.sh prints them over the translation 8aa578c95203661a… (all of the seat's roots in one cut). By AI agents, Wed Nov 11 2026. No macro, syntax, notation, axiom, sorry.
-/
import Derived.Test.YbulkagqaChecked
import GoSem.Claim
import GoSem.ClaimJoined
import GoSem.ClaimMapViews
import Derived.JoinedTies
import Derived.KernelRfl
namespace Go.Proofs.Ybulkagqa
/- THE CELL 'sum', in the pinned program and in every row, IS THE sha256 OF THE DUMP (.gsa) THAT YbulkagqaProg.lean LOADS. Nothing in Lean hashes anything: it is a label: what it is worth is what the hold of that sum in a sandbox is worth. -/
noncomputable def Yba.pinned : Pinned := { name := "ybulkagqa", sum := "8aa578c95203661a6eef52d88a6e7c6e232c36b174a64fbbaa66fdeb193a0cda", checked := Yba.checked }
namespace Rows
def none {H : Type} : Left H := { results := [], args := [] }

/-- 'related.LawS1625ASpans': WHATEVER THE INPUT: true; the input reads as it did. -/
def lawS1625ASpansSpec : ChangeSpec := { name := "lawS1625ASpans", fn := fun _ => fun
  | [d1, d2, d3] => { results := [.lit (.bool true)], args := [d1, d2, d3] }
  | _ => none }
def lawS1625ASpansRow : OpenClaim := { program := "ybulkagqa", sum := "8aa578c95203661a6eef52d88a6e7c6e232c36b174a64fbbaa66fdeb193a0cda", func := "example.com/relata/relata/pkg/related.LawS1625ASpans", spec := "lawS1625ASpans", unfollowed := true, recurses := true, apart := false }
def LawS1625ASpansSaid : Prop := lawS1625ASpansRow.holds Yba.pinned (OpenSpec.ofChange lawS1625ASpansSpec)

/-- ITS FALSE NEIGHBOUR: 'it returns false'. Refute it at one input. -/
def lawS1625ASpansWrong : ChangeSpec := { name := "lawS1625ASpans", fn := fun _ => fun
  | [d1, d2, d3] => { results := [.lit (.bool false)], args := [d1, d2, d3] }
  | _ => none }
def LawS1625ASpansWrongFalsely : Prop := lawS1625ASpansRow.holds Yba.pinned (OpenSpec.ofChange lawS1625ASpansWrong)

end Rows
end Go.Proofs.Ybulkagqa
