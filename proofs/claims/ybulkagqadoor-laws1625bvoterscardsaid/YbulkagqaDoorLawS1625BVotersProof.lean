/-
  The proof of 'Rows.LawS1625BVotersCardSaid': the row by the walk 'lawVoters_any' (YbulkagqaDoorG6) over 'newBreaks_any' (YbulkagqaDoorF6); the listed map by 'rules_of_laid' (YbulkagqaDoorH1); the card by the builder's call over the given tie.
-/
import Derived.Test.YbulkagqaDoorRows
import Derived.Test.YbulkagqaDoorTie
import Derived.Test.YbulkagqaDoorCards
import Derived.Test.YbulkagqaDoorF6
import Derived.Test.YbulkagqaDoorH1
import Derived.Test.YbulkagqaDoorG6
import Derived.OpenVars
import Derived.SevenTiedAt
namespace Go.Proofs.YbulkagqaDoor.lawS1625BVoters
open Go.ChangeShapes Go.WideShapes Go.ChangeAt Go.WideMaps Go.WideElems Go.RowKit
open Go.Proofs.YbulkagqaDoor
set_option linter.unusedVariables false

set_option maxRecDepth 100000 in
theorem lifted (os : Os) (started : os.Started) (H : Type) (enc : TypeId × Value → H) :
    ReturnsInHanded {} Ybad.checked os 5 .any (fun w args => (Rows.lawS1625BVotersSpec.pre enc Ybad.prog Ybad.f5 [] false w args ∧ laidMetH Ybad.prog [("example.com/relata/relata/pkg/book.relationRules", rulesD)] w) ∧ sizedMet enc Ybad.prog Ybad.f5 (OpenSpec.ofChange Rows.lawS1625BVotersSpec) false w args)
      (Rows.lawS1625BVotersSpec.post enc Ybad.prog Ybad.f5 false true false false) := by
  refine returnsInHanded_of_change_and (C := Ybad.checked) (X := fun w _ => laidMetH Ybad.prog [("example.com/relata/relata/pkg/book.relationRules", rulesD)] w) (fun _ _ _ hh h => h.of_heap hh) own started (by kernel_rfl) Ybad.func5
    (ChangeSpec.witness_shaped (enc := enc) (C := Ybad.checked) (os := os) (X := fun w _ => laidMetH Ybad.prog [("example.com/relata/relata/pkg/book.relationRules", rulesD)] w) false (World.doorLaid Ybad.prog 400 os) #[.slice none 0 0] 8 rfl (World.shaped_of_RefB (by kernel_rfl) (by kernel_rfl)) (by kernel_rfl) (by kernel_rfl) (by kernel_rfl) (door_met os _)) ?_
  intro W base args ds gs before hval0 hW _ _ hL _
  have hval : ∀ (j : Nat) t v, Ybad.f5.params[j]? = some t → args[j]? = some v → Value.okWide Ybad.prog W .any base t v := hval0
  have hW' := hW
  obtain ⟨p, q, hA0, hV0, rfl, hfz, hnd⟩ := hW
  have hA : DataW.TrodAll enc Ybad.prog W 0 (fun _ => true) true Ybad.f5.params.toList args.toList ds p := hA0
  have hV : DataW.TrodVars enc Ybad.prog W (fun _ => true) ["example.com/relata/relata/pkg/book.relationRules"] gs q := hV0
  rw [Ybad.params5] at hA hval
  obtain ⟨v0, d0, rfl, rfl, h0⟩ := trodAll_one hA
  obtain ⟨a, len, cap, rfl⟩ := okWide_slice Ybad.underlying22 (hval 0 22 v0 rfl rfl)
  have k0 := h0
  have lt0 : ∀ x ∈ p, x.block < W.heap.size := by obtain ⟨m, hm⟩ := k0; exact DataW.trod_lt m _ _ _ hm
  obtain ⟨ins, rfl, hI⟩ := open_ins h0
  have kV := hV
  obtain ⟨g, t, cs, fuel, dv, pv, rfl, hg, ht, hvar, hvt, rfl⟩ := trodVars_one hV
  clear hA0 hval0 hV0
  refine (lawVoters_any newBreaks_any a cap ins W hI (rules_of_laid hL)).mono fun e W' ⟨he, bel⟩ => ?_
  subst he
  exact ⟨_, rfl, _, _, _, [], _, _, hW', trodAll_mk1 (shut_bool Ybad.underlying4 _), trodAll_mk1 (Below.trod laidOut (by kernel_rfl) (of_decide_eq_true (by kernel_rfl)) k0 bel lt0), Below.trodVars laidOut bel (by kernel_rfl) kV, bel.frame _, fun h => by cases h⟩

theorem over : Rows.LawS1625BVotersSaid :=
  OpenClaim.holds_of_wide 5 Ybad.f5 rfl rfl rfl rfl rfl rfl rfl ⟨rfl, rfl, rfl, rfl, rfl⟩ rfl rfl rfl rfl rfl (by kernel_rfl) Ybad.func5 (by kernel_rfl)
    (of_decide_eq_true (by kernel_rfl)) (by unfold Func.isWrapper; first | (rw [if_pos (by decide +kernel)]; kernel_rfl) | (rw [if_neg (by decide +kernel)]; exact ⟨rfl, rfl⟩))
    (fun os started H enc _ => lifted os started H enc)

/-- The card. -/
theorem proved : Rows.LawS1625BVotersCardSaid :=
  Claim7.holds_tied_plain_at .later [] [.mappedDeep] true (true, "98c08bd28203ea91735eb9a19ece339689496a379d1f076656040e44c3879313") false
    over (fun _ h => by cases h) (by kernel_rfl) (fun _ h => by cases h) lawS1625BVoters_row_tie rfl ⟨rfl, rfl⟩ (by kernel_rfl) rfl
    (fun f fn hf hfn => by
      obtain rfl : f = 5 := Option.some.inj ((show Ybad.prog.funcNamed "example.com/relata/relata/pkg/related.LawS1625BVoters" = some 5 by kernel_rfl).symm.trans hf) |>.symm
      obtain rfl : fn = Ybad.f5 := (Option.some.inj (Ybad.func5.symm.trans hfn)).symm
      exact ⟨by kernel_rfl, fun j t ht => by
        rw [Ybad.params5] at ht
        have hm : t ∈ [22] := by simpa using Array.mem_of_getElem? ht
        have hall : ([22].all fun u => !Ybad.prog.wantsStandIn u) = true := by kernel_rfl
        exact (show Ybad.prog.wantsStandIn t = false by simpa using List.all_eq_true.1 hall t hm)⟩)
    (by kernel_rfl)
end Go.Proofs.YbulkagqaDoor.lawS1625BVoters
