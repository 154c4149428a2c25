/-
  DERIVED. GIVEN WITH THE SEED: THE CARDS: each row of YbulkagqaDoorRows.lean that lists a variable, with what it lists TIED to the program's text (the seventh form; the later family's looks); each row that meets fmt, with fmt's text TOLD by the authors' own Lean function (tested against real Go, not proved from fmt's source: count such statements apart). THE CARD IS WHAT COUNTS. Prove the row's statement (the work); the ties are given (YbulkagqaDoorTie.lean); close each card by the builder's one call (the guide's Derived/Test/ToyasCard.lean, 'card_holds'). Laid BY PROGRAM, IN A SANDBOX (cutbox-door.mjs). By AI agents, Wed Nov 11 2026. No macro, syntax, notation, axiom, sorry.
-/
import Derived.Test.YbulkagqaDoorRows
import GoSem.ClaimSeven
namespace Go.Proofs.YbulkagqaDoor
namespace Rows

/-- THE TIED CARD OF 'related.LawS1625BAll'. -/
def lawS1625BAllCard : Claim7 := { stood := { row := lawS1625BAllRow, standIns := [], harness := (true, "98c08bd28203ea91735eb9a19ece339689496a379d1f076656040e44c3879313"), looks := false }, kinds := [], alts := [], laidByText := true, laidKinds := [.mappedDeep], laidTests := true, laidLooks := .later }
def LawS1625BAllCardSaid : Prop := Claim7.holds Ybad.pinned (.plain (OpenSpec.ofChange lawS1625BAllSpec)) lawS1625BAllCard

/-- THE TIED CARD OF 'related.LawS1625BAt'. -/
def lawS1625BAtCard : Claim7 := { stood := { row := lawS1625BAtRow, standIns := [], harness := (true, "98c08bd28203ea91735eb9a19ece339689496a379d1f076656040e44c3879313"), looks := false }, kinds := [], alts := [], laidByText := true, laidKinds := [.mappedDeep], laidTests := true, laidLooks := .later }
def LawS1625BAtCardSaid : Prop := Claim7.holds Ybad.pinned (.plain (OpenSpec.ofChange lawS1625BAtSpec)) lawS1625BAtCard

/-- THE TIED CARD OF 'related.LawS1625BVoters'. -/
def lawS1625BVotersCard : Claim7 := { stood := { row := lawS1625BVotersRow, standIns := [], harness := (true, "98c08bd28203ea91735eb9a19ece339689496a379d1f076656040e44c3879313"), looks := false }, kinds := [], alts := [], laidByText := true, laidKinds := [.mappedDeep], laidTests := true, laidLooks := .later }
def LawS1625BVotersCardSaid : Prop := Claim7.holds Ybad.pinned (.plain (OpenSpec.ofChange lawS1625BVotersSpec)) lawS1625BVotersCard
end Rows
end Go.Proofs.YbulkagqaDoor
