import Derived.Test.YbulkagtgC10
import Derived.ProofKit
import Derived.OpenShut
import Derived.ChangeOld
import Derived.Below
import Derived.Lib.SmallJoins
namespace Go.Proofs.Ybulkagtg
open Go.ChangeShapes Go.WideShapes Go.ChangeAt Go.RowKit
set_option linter.unusedVariables false

theorem cells25 : Yba.prog.cellsOf 25 = 8 := by kernel_rfl
theorem cells4 : Yba.prog.cellsOf 4 = 1 := by kernel_rfl
theorem cells22 : Yba.prog.cellsOf 22 = 1 := by kernel_rfl
theorem cells23 : Yba.prog.cellsOf 23 = 1 := by kernel_rfl
theorem cells5 : Yba.prog.cellsOf 5 = 1 := by kernel_rfl

theorem array8 {α : Type} {cs : Array α} (h : cs.size = 8) : ∃ c0 c1 c2 c3 c4 c5 c6 c7, cs = #[c0, c1, c2, c3, c4, c5, c6, c7] := by
  obtain ⟨l⟩ := cs
  match l, h with
  | [c0, c1, c2, c3, c4, c5, c6, c7], _ => exact ⟨c0, c1, c2, c3, c4, c5, c6, c7, rfl⟩
theorem list8 {α : Type} {l : List α} (h : l.length = 8) : ∃ c0 c1 c2 c3 c4 c5 c6 c7, l = [c0, c1, c2, c3, c4, c5, c6, c7] := by
  match l, h with
  | [c0, c1, c2, c3, c4, c5, c6, c7], _ => exact ⟨c0, c1, c2, c3, c4, c5, c6, c7, rfl⟩

theorem nat_of_wf {k : IntKind} {n : Int} (h : (Lit.int k n).wf = true) (h0 : k.min = 0) : ∃ m : Nat, n = (m : Int) ∧ (m : Int) ≤ k.max := by
  simp [Lit.wf] at h
  exact ⟨n.toNat, by omega, by omega⟩

theorem open_in {H : Type} {enc : TypeId × Value → H} {W : World} {base : Nat} {spare : Nat → Bool} {held : Bool} {r : Reach} {b0 : Nat} {v : Value} {d : DataW H} {p : List MemPlace}
    (hv : Value.okWide Yba.prog W r b0 25 v) (h : DataW.Trod enc Yba.prog W base spare held 25 v d p) :
    ∃ (hb hs : Bool) (pb ps B Q lot tie : Nat), v = inAgg hb hs pb ps B Q lot tie ∧ B < 65536 ∧ Q < 65536 ∧ lot < 65536 ∧ pb < 4294967296 ∧ ps < 4294967296 ∧ tie < 256 := by
  obtain ⟨cs, rfl, hsz⟩ := okWide_struct Yba.underlying25 hv
  obtain ⟨c0, c1, c2, c3, c4, c5, c6, c7, rfl⟩ := array8 (hsz.trans cells25)
  obtain ⟨fuel, hf⟩ := h
  obtain ⟨xs, n, _, _, hl, hlen, hff⟩ := DataW.trod_struct Yba.underlying25 hf
  obtain ⟨y0, y1, y2, y3, y4, y5, y6, y7, rfl⟩ := list8 (hlen.trans rfl)
  have g0 : DataW.trod enc Yba.prog W base spare held n 4 [c0] = some y0 := by simpa [Value.cells, cells4] using hff 0 _ rfl
  have g1 : DataW.trod enc Yba.prog W base spare held n 4 [c1] = some y1 := by simpa [Value.cells, cells4] using hff 1 _ rfl
  have g2 : DataW.trod enc Yba.prog W base spare held n 22 [c2] = some y2 := by simpa [Value.cells, cells22] using hff 2 _ rfl
  have g3 : DataW.trod enc Yba.prog W base spare held n 22 [c3] = some y3 := by simpa [Value.cells, cells22] using hff 3 _ rfl
  have g4 : DataW.trod enc Yba.prog W base spare held n 23 [c4] = some y4 := by simpa [Value.cells, cells23] using hff 4 _ rfl
  have g5 : DataW.trod enc Yba.prog W base spare held n 23 [c5] = some y5 := by simpa [Value.cells, cells23] using hff 5 _ rfl
  have g6 : DataW.trod enc Yba.prog W base spare held n 23 [c6] = some y6 := by simpa [Value.cells, cells23] using hff 6 _ rfl
  have g7 : DataW.trod enc Yba.prog W base spare held n 5 [c7] = some y7 := by simpa [Value.cells, cells5] using hff 7 _ rfl
  obtain ⟨hb, e0, _⟩ := DataW.trod_bool Yba.underlying4 g0
  obtain ⟨hs, e1, _⟩ := DataW.trod_bool Yba.underlying4 g1
  obtain ⟨z2, e2, _, w2⟩ := DataW.trod_int Yba.underlying22 g2
  obtain ⟨z3, e3, _, w3⟩ := DataW.trod_int Yba.underlying22 g3
  obtain ⟨z4, e4, _, w4⟩ := DataW.trod_int Yba.underlying23 g4
  obtain ⟨z5, e5, _, w5⟩ := DataW.trod_int Yba.underlying23 g5
  obtain ⟨z6, e6, _, w6⟩ := DataW.trod_int Yba.underlying23 g6
  obtain ⟨z7, e7, _, w7⟩ := DataW.trod_int Yba.underlying5 g7
  obtain ⟨pb, rfl, l2⟩ := nat_of_wf w2 (by decide)
  obtain ⟨ps, rfl, l3⟩ := nat_of_wf w3 (by decide)
  obtain ⟨B, rfl, l4⟩ := nat_of_wf w4 (by decide)
  obtain ⟨Q, rfl, l5⟩ := nat_of_wf w5 (by decide)
  obtain ⟨lot, rfl, l6⟩ := nat_of_wf w6 (by decide)
  obtain ⟨tie, rfl, l7⟩ := nat_of_wf w7 (by decide)
  rw [show IntKind.u32.max = 4294967295 by decide] at l2 l3
  rw [show IntKind.u16.max = 65535 by decide] at l4 l5 l6
  rw [show IntKind.u8.max = 255 by decide] at l7
  simp only [List.cons.injEq, and_true] at e0 e1 e2 e3 e4 e5 e6 e7
  subst e0 e1 e2 e3 e4 e5 e6 e7
  exact ⟨hb, hs, pb, ps, B, Q, lot, tie, rfl, by omega, by omega, by omega, by omega, by omega, by omega⟩
end Go.Proofs.Ybulkagtg
