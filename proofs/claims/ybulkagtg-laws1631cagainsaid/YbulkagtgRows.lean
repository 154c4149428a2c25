/-
  No cell of these rows narrows 'for every input' (looked for: loops, veiled, ifaces, maps, wideKeys, modest, calm, conditions, laid).
  DERIVED. THE GIVEN ROWS OF THIS SEAT. 2 by the template 'for every input the law returns true; each argument reads behind the call as it read before'; 0 by the template 'total and deterministic' (their statements: YbulkagtgTotals.lean).
  GIVEN WITH THE SEED: the statements are not yours to turn. If you find one false, say at which input.
  Laid BY PROGRAM, IN A SANDBOX (cutbox-rows.mjs): the forced cells as the released guide's own fill.sh prints them over the translation 6cb361d848c406bd… (all of the seat's roots in one cut). By AI agents, Wed Nov 11 2026. No macro, syntax, notation, axiom, sorry.
-/
import Derived.Test.YbulkagtgChecked
import GoSem.Claim
import GoSem.ClaimJoined
import GoSem.ClaimMapViews
import Derived.JoinedTies
import Derived.KernelRfl
namespace Go.Proofs.Ybulkagtg
/- THE CELL 'sum', in the pinned program and in every row, IS THE sha256 OF THE DUMP (.gsa) THAT YbulkagtgProg.lean LOADS. Nothing in Lean hashes anything: it is a label: what it is worth is what the hold of that sum in a sandbox is worth. -/
noncomputable def Yba.pinned : Pinned := { name := "ybulkagtg", sum := "6cb361d848c406bdef058b44ef38fcb2f036a0a39d868970cad0a232cd988040", checked := Yba.checked }
namespace Rows
def none {H : Type} : Left H := { results := [], args := [] }

/-- 'clearline.LawS1631CPick': WHATEVER THE INPUT: true; the input reads as it did. -/
def lawS1631CPickSpec : ChangeSpec := { name := "lawS1631CPick", fn := fun _ => fun
  | [d] => { results := [.lit (.bool true)], args := [d] }
  | _ => none }
def lawS1631CPickRow : OpenClaim := { program := "ybulkagtg", sum := "6cb361d848c406bdef058b44ef38fcb2f036a0a39d868970cad0a232cd988040", func := "example.com/clearline/clearline.LawS1631CPick", spec := "lawS1631CPick", apart := false }
def LawS1631CPickSaid : Prop := lawS1631CPickRow.holds Yba.pinned (OpenSpec.ofChange lawS1631CPickSpec)

/-- ITS FALSE NEIGHBOUR: 'it returns false'. Refute it at one input. -/
def lawS1631CPickWrong : ChangeSpec := { name := "lawS1631CPick", fn := fun _ => fun
  | [d] => { results := [.lit (.bool false)], args := [d] }
  | _ => none }
def LawS1631CPickWrongFalsely : Prop := lawS1631CPickRow.holds Yba.pinned (OpenSpec.ofChange lawS1631CPickWrong)

/-- 'clearline.LawS1631CAgain': WHATEVER THE INPUT: true; the input reads as it did. -/
def lawS1631CAgainSpec : ChangeSpec := { name := "lawS1631CAgain", fn := fun _ => fun
  | [d] => { results := [.lit (.bool true)], args := [d] }
  | _ => none }
def lawS1631CAgainRow : OpenClaim := { program := "ybulkagtg", sum := "6cb361d848c406bdef058b44ef38fcb2f036a0a39d868970cad0a232cd988040", func := "example.com/clearline/clearline.LawS1631CAgain", spec := "lawS1631CAgain", apart := false }
def LawS1631CAgainSaid : Prop := lawS1631CAgainRow.holds Yba.pinned (OpenSpec.ofChange lawS1631CAgainSpec)

/-- ITS FALSE NEIGHBOUR: 'it returns false'. Refute it at one input. -/
def lawS1631CAgainWrong : ChangeSpec := { name := "lawS1631CAgain", fn := fun _ => fun
  | [d] => { results := [.lit (.bool false)], args := [d] }
  | _ => none }
def LawS1631CAgainWrongFalsely : Prop := lawS1631CAgainRow.holds Yba.pinned (OpenSpec.ofChange lawS1631CAgainWrong)

end Rows
end Go.Proofs.Ybulkagtg
