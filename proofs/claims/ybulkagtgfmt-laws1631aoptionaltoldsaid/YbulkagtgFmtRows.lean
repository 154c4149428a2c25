/-
  No cell of these rows narrows 'for every input' (looked for: loops, veiled, ifaces, maps, wideKeys, modest, calm, conditions, laid).
  DERIVED. THE GIVEN ROWS OF THIS SEAT. 2 by the template 'for every input the law returns true; each argument reads behind the call as it read before'; 0 by the template 'total and deterministic' (their statements: YbulkagtgFmtTotals.lean).
  GIVEN WITH THE SEED: the statements are not yours to turn. If you find one false, say at which input.
  Laid BY PROGRAM, IN A SANDBOX (cutbox-rows.mjs): the forced cells as the released guide's own fill.sh prints them over the translation 52ab46c5814cd8b8… (all of the seat's roots in one cut). By AI agents, Wed Nov 11 2026. No macro, syntax, notation, axiom, sorry.
-/
import Derived.Test.YbulkagtgFmtChecked
import GoSem.Claim
import GoSem.ClaimJoined
import GoSem.ClaimMapViews
import Derived.JoinedTies
import Derived.KernelRfl
namespace Go.Proofs.YbulkagtgFmt
/- THE CELL 'sum', in the pinned program and in every row, IS THE sha256 OF THE DUMP (.gsa) THAT YbulkagtgFmtProg.lean LOADS. Nothing in Lean hashes anything: it is a label: what it is worth is what the hold of that sum in a sandbox is worth. -/
noncomputable def Ybaf.pinned : Pinned := { name := "ybulkagtgfmt", sum := "52ab46c5814cd8b84e6f4ddcb0e08fe33cf27513827e3744385eb727cd4b2327", checked := Ybaf.checked }
namespace Rows
def none {H : Type} : Left H := { results := [], args := [] }

/-- 'clearline.LawS1631AExact': WHATEVER THE INPUT: true; the input reads as it did. -/
def lawS1631AExactSpec : ChangeSpec := { name := "lawS1631AExact", fn := fun _ => fun
  | [d1, d2] => { results := [.lit (.bool true)], args := [d1, d2] }
  | _ => none }
def lawS1631AExactRow : OpenClaim := { program := "ybulkagtgfmt", sum := "52ab46c5814cd8b84e6f4ddcb0e08fe33cf27513827e3744385eb727cd4b2327", func := "example.com/clearline/clearline.LawS1631AExact", spec := "lawS1631AExact", stops := ["fmt.Sprintf"], inPlace := ["fmt.Sprintf"], apart := false }
/-- NO THEOREM (fmt's text is open here; it may be false): for the released tool's asking of the row's closed facts alone. THE STATEMENT IS 'LawS1631AExactToldSaid' (YbulkagtgFmtCards.lean). -/
def LawS1631AExactFormAsk : Prop := lawS1631AExactRow.holds Ybaf.pinned (OpenSpec.ofChange lawS1631AExactSpec)

/-- ITS FALSE NEIGHBOUR: 'it returns false'. Refute it at one input. -/
def lawS1631AExactWrong : ChangeSpec := { name := "lawS1631AExact", fn := fun _ => fun
  | [d1, d2] => { results := [.lit (.bool false)], args := [d1, d2] }
  | _ => none }
def LawS1631AExactWrongFormAsk : Prop := lawS1631AExactRow.holds Ybaf.pinned (OpenSpec.ofChange lawS1631AExactWrong)

/-- 'clearline.LawS1631AOptional': WHATEVER THE INPUT: true; the input reads as it did. -/
def lawS1631AOptionalSpec : ChangeSpec := { name := "lawS1631AOptional", fn := fun _ => fun
  | [d1, d2] => { results := [.lit (.bool true)], args := [d1, d2] }
  | _ => none }
def lawS1631AOptionalRow : OpenClaim := { program := "ybulkagtgfmt", sum := "52ab46c5814cd8b84e6f4ddcb0e08fe33cf27513827e3744385eb727cd4b2327", func := "example.com/clearline/clearline.LawS1631AOptional", spec := "lawS1631AOptional", stops := ["fmt.Sprintf"], inPlace := ["fmt.Sprintf"], apart := false }
/-- NO THEOREM (fmt's text is open here; it may be false): for the released tool's asking of the row's closed facts alone. THE STATEMENT IS 'LawS1631AOptionalToldSaid' (YbulkagtgFmtCards.lean). -/
def LawS1631AOptionalFormAsk : Prop := lawS1631AOptionalRow.holds Ybaf.pinned (OpenSpec.ofChange lawS1631AOptionalSpec)

/-- ITS FALSE NEIGHBOUR: 'it returns false'. Refute it at one input. -/
def lawS1631AOptionalWrong : ChangeSpec := { name := "lawS1631AOptional", fn := fun _ => fun
  | [d1, d2] => { results := [.lit (.bool false)], args := [d1, d2] }
  | _ => none }
def LawS1631AOptionalWrongFormAsk : Prop := lawS1631AOptionalRow.holds Ybaf.pinned (OpenSpec.ofChange lawS1631AOptionalWrong)

end Rows
end Go.Proofs.YbulkagtgFmt
