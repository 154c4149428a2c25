/-
  NARROWER THAN 'FOR EVERY INPUT', by the rows' own cells (each row's printed sentence says how): LawS1625BAll: maps, laid · LawS1625BAt: maps, laid · LawS1625BVoters: maps, laid.
  DERIVED. THE GIVEN ROWS OF THIS SEAT. 3 by the template 'for every input the law returns true; each argument reads behind the call as it read before'; 0 by the template 'total and deterministic' (their statements: YbulkagqaDoorTotals.lean).
  GIVEN WITH THE SEED: the statements are not yours to turn. If you find one false, say at which input.
  Laid BY PROGRAM, IN A SANDBOX (cutbox-rows.mjs): the forced cells as the released guide's own fill.sh prints them over the translation 6b7c3c245f28b3fe… (all of the seat's roots in one cut). By AI agents, Wed Nov 11 2026. No macro, syntax, notation, axiom, sorry.
-/
import Derived.Test.YbulkagqaDoorChecked
import GoSem.Claim
import GoSem.ClaimJoined
import GoSem.ClaimMapViews
import Derived.JoinedTies
import Derived.KernelRfl
namespace Go.Proofs.YbulkagqaDoor
/- THE CELL 'sum', in the pinned program and in every row, IS THE sha256 OF THE DUMP (.gsa) THAT YbulkagqaDoorProg.lean LOADS. Nothing in Lean hashes anything: it is a label: what it is worth is what the hold of that sum in a sandbox is worth. -/
noncomputable def Ybad.pinned : Pinned := { name := "ybulkagqadoor", sum := "6b7c3c245f28b3feaf01a7b729a44b74c183fbe5900aebccf9b64a1991376275", checked := Ybad.checked }
namespace Rows
def none {H : Type} : Left H := { results := [], args := [] }

/- WHAT THE LISTED PACKAGE-LEVEL VARIABLES READ AS WHEN THE CALL BEGINS. Each datum BY PROGRAM (the guide's laid-datum.mjs) off the statement by which the dump's own 'gosem.cut.vars' lays the variable. In a bare row this is a premise. The card (YbulkagqaDoorCards.lean) ties it to the program's text. -/
def laid_example_com_relata_relata_pkg_book_relationRules {H : Type} : DataW H := .map [(.string [99, 111, 110, 99, 101, 114, 116], .agg [.lit (.string []), .lit (.string []), .lit (.bool false)]), (.string [99, 111, 110, 116, 114, 111, 108, 115], .agg [.lit (.string []), .lit (.string [111, 114, 103]), .lit (.bool false)]), (.string [100, 105, 114, 101, 99, 116, 111, 114], .agg [.lit (.string [112, 101, 114, 115, 111, 110]), .lit (.string [111, 114, 103]), .lit (.bool true)]), (.string [104, 111, 108, 100, 115], .agg [.lit (.string []), .lit (.string [111, 114, 103]), .lit (.bool false)]), (.string [105, 110, 100, 101, 112, 101, 110, 100, 101, 110, 116, 45, 100, 105, 114, 101, 99, 116, 111, 114], .agg [.lit (.string [112, 101, 114, 115, 111, 110]), .lit (.string [111, 114, 103]), .lit (.bool true)]), (.string [108, 101, 103, 97, 108, 45, 114, 101, 112, 114, 101, 115, 101, 110, 116, 97, 116, 105, 118, 101], .agg [.lit (.string [112, 101, 114, 115, 111, 110]), .lit (.string [111, 114, 103]), .lit (.bool false)]), (.string [112, 97, 114, 101, 110, 116], .agg [.lit (.string [112, 101, 114, 115, 111, 110]), .lit (.string [112, 101, 114, 115, 111, 110]), .lit (.bool false)]), (.string [115, 101, 110, 105, 111, 114, 45, 109, 97, 110, 97, 103, 101, 114], .agg [.lit (.string [112, 101, 114, 115, 111, 110]), .lit (.string [111, 114, 103]), .lit (.bool true)]), (.string [115, 105, 98, 108, 105, 110, 103], .agg [.lit (.string [112, 101, 114, 115, 111, 110]), .lit (.string [112, 101, 114, 115, 111, 110]), .lit (.bool false)]), (.string [115, 112, 111, 117, 115, 101], .agg [.lit (.string [112, 101, 114, 115, 111, 110]), .lit (.string [112, 101, 114, 115, 111, 110]), .lit (.bool false)]), (.string [115, 117, 112, 101, 114, 118, 105, 115, 111, 114], .agg [.lit (.string [112, 101, 114, 115, 111, 110]), .lit (.string [111, 114, 103]), .lit (.bool true)])]

/-- 'related.LawS1625BAll': WHATEVER THE INPUT: true; the input reads as it did. -/
def lawS1625BAllSpec : ChangeSpec := { name := "lawS1625BAll", vars := ["example.com/relata/relata/pkg/book.relationRules"], fn := fun _ => fun
  | [d, g1] => { results := [.lit (.bool true)], args := [d], vars := [g1] }
  | _ => none }
def lawS1625BAllRow : OpenClaim := { program := "ybulkagqadoor", sum := "6b7c3c245f28b3feaf01a7b729a44b74c183fbe5900aebccf9b64a1991376275", func := "example.com/relata/relata/pkg/related.LawS1625BAll", spec := "lawS1625BAll", unfollowed := true, recurses := true, named := ["example.com/relata/relata/pkg/book.relationRules"], maps := true, plainKeys := false, apart := false, laid := [("example.com/relata/relata/pkg/book.relationRules", laid_example_com_relata_relata_pkg_book_relationRules)] }
def LawS1625BAllSaid : Prop := lawS1625BAllRow.holds Ybad.pinned (OpenSpec.ofChange lawS1625BAllSpec)

/-- ITS FALSE NEIGHBOUR: 'it returns false'. Refute it at one input. -/
def lawS1625BAllWrong : ChangeSpec := { name := "lawS1625BAll", vars := ["example.com/relata/relata/pkg/book.relationRules"], fn := fun _ => fun
  | [d, g1] => { results := [.lit (.bool false)], args := [d], vars := [g1] }
  | _ => none }
def LawS1625BAllWrongFalsely : Prop := lawS1625BAllRow.holds Ybad.pinned (OpenSpec.ofChange lawS1625BAllWrong)

/-- 'related.LawS1625BAt': WHATEVER THE INPUT: true; the input reads as it did. -/
def lawS1625BAtSpec : ChangeSpec := { name := "lawS1625BAt", vars := ["example.com/relata/relata/pkg/book.relationRules"], fn := fun _ => fun
  | [d, g1] => { results := [.lit (.bool true)], args := [d], vars := [g1] }
  | _ => none }
def lawS1625BAtRow : OpenClaim := { program := "ybulkagqadoor", sum := "6b7c3c245f28b3feaf01a7b729a44b74c183fbe5900aebccf9b64a1991376275", func := "example.com/relata/relata/pkg/related.LawS1625BAt", spec := "lawS1625BAt", unfollowed := true, recurses := true, named := ["example.com/relata/relata/pkg/book.relationRules"], maps := true, plainKeys := false, apart := false, laid := [("example.com/relata/relata/pkg/book.relationRules", laid_example_com_relata_relata_pkg_book_relationRules)] }
def LawS1625BAtSaid : Prop := lawS1625BAtRow.holds Ybad.pinned (OpenSpec.ofChange lawS1625BAtSpec)

/-- ITS FALSE NEIGHBOUR: 'it returns false'. Refute it at one input. -/
def lawS1625BAtWrong : ChangeSpec := { name := "lawS1625BAt", vars := ["example.com/relata/relata/pkg/book.relationRules"], fn := fun _ => fun
  | [d, g1] => { results := [.lit (.bool false)], args := [d], vars := [g1] }
  | _ => none }
def LawS1625BAtWrongFalsely : Prop := lawS1625BAtRow.holds Ybad.pinned (OpenSpec.ofChange lawS1625BAtWrong)

/-- 'related.LawS1625BVoters': WHATEVER THE INPUT: true; the input reads as it did. -/
def lawS1625BVotersSpec : ChangeSpec := { name := "lawS1625BVoters", vars := ["example.com/relata/relata/pkg/book.relationRules"], fn := fun _ => fun
  | [d, g1] => { results := [.lit (.bool true)], args := [d], vars := [g1] }
  | _ => none }
def lawS1625BVotersRow : OpenClaim := { program := "ybulkagqadoor", sum := "6b7c3c245f28b3feaf01a7b729a44b74c183fbe5900aebccf9b64a1991376275", func := "example.com/relata/relata/pkg/related.LawS1625BVoters", spec := "lawS1625BVoters", unfollowed := true, recurses := true, named := ["example.com/relata/relata/pkg/book.relationRules"], maps := true, plainKeys := false, apart := false, laid := [("example.com/relata/relata/pkg/book.relationRules", laid_example_com_relata_relata_pkg_book_relationRules)] }
def LawS1625BVotersSaid : Prop := lawS1625BVotersRow.holds Ybad.pinned (OpenSpec.ofChange lawS1625BVotersSpec)

/-- ITS FALSE NEIGHBOUR: 'it returns false'. Refute it at one input. -/
def lawS1625BVotersWrong : ChangeSpec := { name := "lawS1625BVoters", vars := ["example.com/relata/relata/pkg/book.relationRules"], fn := fun _ => fun
  | [d, g1] => { results := [.lit (.bool false)], args := [d], vars := [g1] }
  | _ => none }
def LawS1625BVotersWrongFalsely : Prop := lawS1625BVotersRow.holds Ybad.pinned (OpenSpec.ofChange lawS1625BVotersWrong)

end Rows
end Go.Proofs.YbulkagqaDoor
