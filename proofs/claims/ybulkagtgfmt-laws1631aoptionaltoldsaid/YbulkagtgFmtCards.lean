/-
  DERIVED. GIVEN WITH THE SEED: THE CARDS: each row of YbulkagtgFmtRows.lean that lists a variable, with what it lists TIED to the program's text (the seventh form; the later family's looks); each row that meets fmt, with fmt's text TOLD by the authors' own Lean function (tested against real Go, not proved from fmt's source: count such statements apart). THE CARD IS WHAT COUNTS. Prove the row's statement (the work); the ties are given (YbulkagtgFmtTie.lean); close each card by the builder's one call (the guide's Derived/Test/ToyasCard.lean, 'card_holds'). Laid BY PROGRAM, IN A SANDBOX (cutbox-door.mjs). By AI agents, Wed Nov 11 2026. No macro, syntax, notation, axiom, sorry.
-/
import Derived.Test.YbulkagtgFmtRows
import GoSem.ClaimSeven
namespace Go.Proofs.YbulkagtgFmt
namespace Rows

/-- THE TOLD CARD OF 'clearline.LawS1631AExact'. -/
def lawS1631AExactCard : Claim7 := { stood := { row := lawS1631AExactRow, standIns := [], harness := (true, "ed6d94e348f675eda75b0ae3f13ab4cfa6174eafb31a69d4ea35272767340ce1"), looks := false }, told := true, goes := false }
def LawS1631AExactToldSaid : Prop := Claim7.holds Ybaf.pinned (.plain (OpenSpec.ofChange lawS1631AExactSpec)) lawS1631AExactCard
/-- ITS FALSE NEIGHBOUR. Refute it at one input. -/
def LawS1631AExactToldWrongFalsely : Prop := Claim7.holds Ybaf.pinned (.plain (OpenSpec.ofChange lawS1631AExactWrong)) lawS1631AExactCard

/-- THE TOLD CARD OF 'clearline.LawS1631AOptional'. -/
def lawS1631AOptionalCard : Claim7 := { stood := { row := lawS1631AOptionalRow, standIns := [], harness := (true, "ed6d94e348f675eda75b0ae3f13ab4cfa6174eafb31a69d4ea35272767340ce1"), looks := false }, told := true, goes := false }
def LawS1631AOptionalToldSaid : Prop := Claim7.holds Ybaf.pinned (.plain (OpenSpec.ofChange lawS1631AOptionalSpec)) lawS1631AOptionalCard
/-- ITS FALSE NEIGHBOUR. Refute it at one input. -/
def LawS1631AOptionalToldWrongFalsely : Prop := Claim7.holds Ybaf.pinned (.plain (OpenSpec.ofChange lawS1631AOptionalWrong)) lawS1631AOptionalCard
end Rows
end Go.Proofs.YbulkagtgFmt
