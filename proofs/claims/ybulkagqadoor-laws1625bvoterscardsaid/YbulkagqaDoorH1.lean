import Derived.Test.YbulkagqaDoorRows
import Derived.Test.YbulkagqaDoorG3
import Derived.ProofKit
import Derived.LaidMore
import Derived.OpenShut
import Derived.ChangeOld
import Derived.ChangeVars
import Derived.Deep.Slices
import Derived.Stop.Joined
namespace Go.Proofs.YbulkagqaDoor
open Go.ChangeShapes Go.WideShapes Go.ChangeAt Go.WideMaps Go.WideElems Go.RowKit
set_option linter.unusedVariables false
set_option linter.unusedSimpArgs false

theorem own : ownKnob Ybad.prog.godebug = none := by kernel_rfl
theorem laidOut : laidOutB Ybad.prog = true := by kernel_rfl
theorem gRules : Ybad.prog.globalNamed "example.com/relata/relata/pkg/book.relationRules" = some 0 := by kernel_rfl
theorem tRules : (Ybad.prog.globals[0]?).map (·.type) = some 100 := by kernel_rfl
theorem law50 : KeyLaw Ybad.prog 50 := string_law Ybad.underlying50
theorem cells63 : Ybad.prog.cellsOf 63 = 5 := by kernel_rfl
theorem cells5 : Ybad.prog.cellsOf 5 = 1 := by kernel_rfl
theorem cells21 : Ybad.prog.cellsOf 21 = 1 := by kernel_rfl
theorem cells99 : Ybad.prog.cellsOf 99 = 3 := by kernel_rfl
theorem cells97 : Ybad.prog.cellsOf 97 = 1 := by kernel_rfl
theorem cells4 : Ybad.prog.cellsOf 4 = 1 := by kernel_rfl

theorem five {α : Type} {l : List α} (h : l.length = 5) : ∃ a b c d e, l = [a, b, c, d, e] := by
  match l, h with
  | [a, b, c, d, e], _ => exact ⟨a, b, c, d, e, rfl⟩
theorem three {α : Type} {l : List α} (h : l.length = 3) : ∃ a b c, l = [a, b, c] := by
  match l, h with
  | [a, b, c], _ => exact ⟨a, b, c, rfl⟩
theorem u8_of {z : Int} (h : (Lit.int .u8 z).wf = true) : ∃ n : Nat, z = n ∧ n < 256 := by
  simp [Lit.wf] at h
  have m1 : IntKind.u8.min = 0 := by decide
  have m2 : IntKind.u8.max = 255 := by decide
  exact ⟨z.toNat, by omega, by omega⟩
theorem i32_of {z : Int} (h : (Lit.int .i32 z).wf = true) : -2147483648 ≤ z ∧ z ≤ 2147483647 := by
  simp [Lit.wf] at h
  have m1 : IntKind.i32.min = -2147483648 := by decide
  have m2 : IntKind.i32.max = 2147483647 := by decide
  omega

/-- One drawn tie, opened. -/
theorem open_tie {H : Type} {enc : TypeId × Value → H} {W : World} {base : Nat} {spare : Nat → Bool} {held : Bool} {n : Nat} {cs : List Value} {x : DataW H × List MemPlace} (h : DataW.trod enc Ybad.prog W base spare held n 63 cs = some x) :
    ∃ i : InD, i.ok ∧ cs = [.int .u8 i.s, .int .u8 i.r, .int .u8 i.o, .int .i32 i.F, .int .i32 i.T] := by
  obtain ⟨xs, m, _, _, hl, hlen, hff⟩ := DataW.trod_struct Ybad.underlying63 h
  rw [cells63] at hl
  obtain ⟨c0, c1, c2, c3, c4, rfl⟩ := five hl
  obtain ⟨y0, y1, y2, y3, y4, rfl⟩ := five (hlen.trans rfl)
  have g0 : DataW.trod enc Ybad.prog W base spare held m 5 [c0] = some y0 := by simpa [cells5] using hff 0 _ rfl
  have g1 : DataW.trod enc Ybad.prog W base spare held m 5 [c1] = some y1 := by simpa [cells5] using hff 1 _ rfl
  have g2 : DataW.trod enc Ybad.prog W base spare held m 5 [c2] = some y2 := by simpa [cells5] using hff 2 _ rfl
  have g3 : DataW.trod enc Ybad.prog W base spare held m 21 [c3] = some y3 := by simpa [cells21] using hff 3 _ rfl
  have g4 : DataW.trod enc Ybad.prog W base spare held m 21 [c4] = some y4 := by simpa [cells21] using hff 4 _ rfl
  obtain ⟨z0, e0, _, w0⟩ := DataW.trod_int Ybad.underlying5 g0
  obtain ⟨z1, e1, _, w1⟩ := DataW.trod_int Ybad.underlying5 g1
  obtain ⟨z2, e2, _, w2⟩ := DataW.trod_int Ybad.underlying5 g2
  obtain ⟨z3, e3, _, w3⟩ := DataW.trod_int Ybad.underlying21 g3
  obtain ⟨z4, e4, _, w4⟩ := DataW.trod_int Ybad.underlying21 g4
  obtain ⟨s, rfl, l0⟩ := u8_of w0
  obtain ⟨r, rfl, l1⟩ := u8_of w1
  obtain ⟨o, rfl, l2⟩ := u8_of w2
  have l3 := i32_of w3
  have l4 := i32_of w4
  simp only [List.cons.injEq, and_true] at e0 e1 e2 e3 e4
  subst e0 e1 e2 e3 e4
  exact ⟨⟨s, r, o, z3, z4⟩, ⟨l0, l1, l2, l3.1, l3.2, l4.1, l4.2⟩, rfl⟩

/-- The law's input, opened. -/
theorem open_ins {H : Type} {enc : TypeId × Value → H} {W : World} {spare : Nat → Bool} {held : Bool} {a : Option Addr} {len cap : Nat} {d : DataW H} {p : List MemPlace} (h : DataW.Trod enc Ybad.prog W 0 spare held 22 (.slice a len cap) d p) : ∃ ins : List InD, ins.length = len ∧ InsAt W a ins := by
  obtain ⟨fuel, hf⟩ := h
  rcases Go.Deep.open_slice Ybad.underlying22 hf with ⟨hcs, _⟩ | ⟨ad, l, c, m, n, D, Pl, hcs, _, hlc, hcm, hm, _, hel⟩
  · simp [Value.cells] at hcs
    obtain ⟨rfl, rfl, rfl⟩ := hcs
    exact ⟨[], rfl, fun k x hk => by simp at hk⟩
  · simp [Value.cells] at hcs
    obtain ⟨rfl, rfl, rfl⟩ := hcs
    have hle : len ≤ m := by rw [hm]; split <;> omega
    have hex : ∀ i, i < len → ∃ x : InD, x.ok ∧ W.cells? 0 (ad.add (i * 5)) 5 = some [.int .u8 x.s, .int .u8 x.r, .int .u8 x.o, .int .i32 x.F, .int .i32 x.T] := fun i hi => by
      obtain ⟨cs', h1, h2⟩ := hel i (by omega)
      rw [cells63] at h1
      obtain ⟨x, hx, rfl⟩ := open_tie h2
      exact ⟨x, hx, h1⟩
    have hch : ∃ f : Nat → InD, ∀ i, i < len → (f i).ok ∧ W.cells? 0 (ad.add (i * 5)) 5 = some [.int .u8 (f i).s, .int .u8 (f i).r, .int .u8 (f i).o, .int .i32 (f i).F, .int .i32 (f i).T] := by
      refine ⟨fun i => if hi : i < len then Classical.choose (hex i hi) else ⟨0, 0, 0, 0, 0⟩, fun i hi => ?_⟩
      simp only [dif_pos hi]
      exact Classical.choose_spec (hex i hi)
    obtain ⟨f, hfi⟩ := hch
    refine ⟨(List.range len).map f, by simp, fun k x hk => ?_⟩
    have hkl : k < len := by simpa using (List.getElem?_eq_some_iff.1 hk).1
    simp [hkl] at hk
    subst hk
    obtain ⟨hok, hc⟩ := hfi k hkl
    obtain ⟨_, _, hcell⟩ := World.cells?_some hc
    obtain ⟨b, off, spot⟩ := ad
    have hspot : spot = none := by
      obtain ⟨_, _, h00⟩ := World.cells?_some (hfi 0 (by omega)).2
      simpa [Addr.add] using World.cell?_spot ((h00 0 (by decide)).trans rfl)
    subst hspot
    have c0 : W.cell? ⟨b, off + k * 5, none⟩ = some (.int .u8 (f k).s) := by simpa [add_plain] using hcell 0 (by decide)
    refine ⟨hok, b, off, rfl, ⟨c0, ?_, ?_, ?_, ?_⟩, World.block_lt_of_cell? W ⟨b, off + k * 5, none⟩ c0⟩
    · simpa [add_plain] using hcell 1 (by decide)
    · simpa [add_plain] using hcell 2 (by decide)
    · simpa [add_plain] using hcell 3 (by decide)
    · simpa [add_plain] using hcell 4 (by decide)

/-- One rule, opened. -/
theorem open_rule {H : Type} {enc : TypeId × Value → H} {W : World} {base : Nat} {sp : Nat → Bool} {held : Bool} {n : Nat} {v : Value} {z : DataW H × List MemPlace} (h : elemAt enc Ybad.prog W base sp held n 99 v = some z) :
    ∃ s o b, v = .agg #[.string s, .string o, .bool b] ∧ ∃ d0 d1, z.1 = .agg [d0, d1, .lit (.bool b)] := by
  unfold elemAt at h
  split at h
  · rename_i hf
    obtain ⟨xs, m, _, rfl, hl, hlen, hff⟩ := DataW.trod_struct Ybad.underlying99 h
    rw [cells99] at hl
    cases v <;> simp [Value.formed, Ybad.underlying99] at hf
    rename_i cs
    obtain ⟨l⟩ := cs
    simp [Value.cells] at hl
    obtain ⟨c0, c1, c2, rfl⟩ := three hl
    obtain ⟨y0, y1, y2, rfl⟩ := three (hlen.trans rfl)
    have g0 : DataW.trod enc Ybad.prog W base sp held m 97 [c0] = some y0 := by simpa [Value.cells, cells97] using hff 0 _ rfl
    have g1 : DataW.trod enc Ybad.prog W base sp held m 97 [c1] = some y1 := by simpa [Value.cells, cells97] using hff 1 _ rfl
    have g2 : DataW.trod enc Ybad.prog W base sp held m 4 [c2] = some y2 := by simpa [Value.cells, cells4] using hff 2 _ rfl
    obtain ⟨s, e0, _⟩ := DataW.trod_string Ybad.underlying97 g0
    obtain ⟨o, e1, _⟩ := DataW.trod_string Ybad.underlying97 g1
    obtain ⟨b, e2, e3⟩ := DataW.trod_bool Ybad.underlying4 g2
    simp only [List.cons.injEq, and_true] at e0 e1 e2
    subst e0 e1 e2
    exact ⟨s, o, b, rfl, y0.1, y1.1, by simp [e3]⟩
  · cases h

abbrev rulesD : DataW Unit := Rows.laid_example_com_relata_relata_pkg_book_relationRules
theorem rules_at (r : Nat) (hr : r < 11) : ∃ d0 d1, rulesD.atKey (.string (rl r).data.toList) .nil = .agg [d0, d1, .lit (.bool (decide (2 ≤ r ∧ r ≤ 5)))] := by
  have hc : r = 0 ∨ r = 1 ∨ r = 2 ∨ r = 3 ∨ r = 4 ∨ r = 5 ∨ r = 6 ∨ r = 7 ∨ r = 8 ∨ r = 9 ∨ r = 10 := by omega
  rcases hc with rfl | rfl | rfl | rfl | rfl | rfl | rfl | rfl | rfl | rfl | rfl <;> exact ⟨_, _, rfl⟩
theorem rl_size (r : Nat) (hr : r < 11) : (rl r).size ≤ maxLen := by
  have h : (rl r).size ≤ 100 := by
    have hc : r = 0 ∨ r = 1 ∨ r = 2 ∨ r = 3 ∨ r = 4 ∨ r = 5 ∨ r = 6 ∨ r = 7 ∨ r = 8 ∨ r = 9 ∨ r = 10 := by omega
    rcases hc with rfl | rfl | rfl | rfl | rfl | rfl | rfl | rfl | rfl | rfl | rfl <;> decide
  unfold maxLen; omega

set_option maxRecDepth 100000 in
/-- What the condition gives the walks. -/
theorem rules_of_laid {W : World} (h : laidMetH Ybad.prog [("example.com/relata/relata/pkg/book.relationRules", rulesD)] W) : RulesAt W := by
  rw [MakeChecks.laidMetH_plain _ _ _ (by kernel_rfl)] at h
  obtain ⟨ps, ⟨g0, t0, cs0, f0, p0, q0, hg0, ht0, hv0, hd0, _⟩, _, _⟩ := h
  obtain rfl := Option.some.inj (gRules.symm.trans hg0)
  obtain rfl := Option.some.inj (tRules.symm.trans ht0)
  rcases open_map Ybad.underlying100 hd0 with ⟨_, hx⟩ | ⟨bm, es, clock, m, rfl, hcs, hb, _, F, hx⟩
  · simp [rulesD, Rows.laid_example_com_relata_relata_pkg_book_relationRules] at hx
  simp only [Prod.mk.injEq] at hx
  have hcell : W.cell? ⟨0, 0, none⟩ = some (.map (some bm)) := by
    have := World.var?_cell hg0 hv0 0
    rw [Array.eq_one_of_toList hcs] at this
    simpa using this
  refine ⟨bm, hcell, (Array.getElem?_eq_some_iff.1 hb).1, fun W' hW' r hr => ?_⟩
  have zero : (zeroValue 99).run Ybad.prog W' = .ok (.agg #[.string ⟨#[]⟩, .string ⟨#[]⟩, .bool false]) W' := by kernel_rfl
  obtain ⟨d0, d1, hat0⟩ := rules_at r hr
  rcases fit_lookup (w := W') law50 Ybad.underlying100 zero (hW'.trans hb) F (keyOf_string_mk (s := rl r) Ybad.underlying50 (rl_size r hr)) with ⟨_, hat⟩ | ⟨v, y, hrun, hRv, hat, _⟩
  · have := hat .nil
    rw [← hx.1, hat0] at this
    cases this
  · obtain ⟨s, o, b, rfl, e0, e1, hz⟩ := open_rule hRv
    have := hat .nil
    rw [← hx.1, hat0, hz] at this
    simp only [DataW.agg.injEq, List.cons.injEq, DataW.lit.injEq, Lit.bool.injEq, and_true] at this
    exact ⟨s, o, by rw [this.2.2]; exact hrun⟩

set_option maxRecDepth 100000 in
/-- The door's own heap meets the condition. -/
theorem door_met (os : Os) (args : Array Value) : laidMetH Ybad.prog [("example.com/relata/relata/pkg/book.relationRules", rulesD)] ((World.doorLaid Ybad.prog 400 os).forCall (fun _ _ => 0) ⟨#[], args, []⟩).memory :=
  laidMetH_of_parts3 (fuel := 8) (laidMet_of_run' 8 (by kernel_rfl) (by kernel_rfl)) (by kernel_rfl) (by kernel_rfl)
end Go.Proofs.YbulkagqaDoor
