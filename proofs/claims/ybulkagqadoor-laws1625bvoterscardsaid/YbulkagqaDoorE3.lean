import Derived.Test.YbulkagqaDoorE1
import Derived.Deep.AppendLies
namespace Go.Proofs.YbulkagqaDoor
open Go.RowKit Go.Lib
set_option linter.unusedVariables false

theorem ownsRow_of_block {w w' : World} {base : Nat} {e : TypeId} {size : Nat} {v : Value} {n : Nat} {xs : List Value} (h : w.ownsRow base e size v n xs) (hb : ∀ k, v.ownBlock = some k → w'.heap[k]? = w.heap[k]?) : w'.ownsRow base e size v n xs := by
  obtain ⟨h1, h2⟩ := h
  refine ⟨h1, ?_⟩
  rcases h2 with h2 | ⟨g, cap, cur, rfl, h3, h4, h5⟩
  · exact .inl h2
  · exact .inr ⟨g, cap, cur, rfl, h3, (hb g rfl).trans h4, h5⟩

/-- Six rows of ties, each in a block of its own behind bs, none in the block bt. -/
structure Rws (w : World) (bs bt : Nat) (R : Nat → Value × List TieD) : Prop where
  own : ∀ j, j < 6 → w.ownsRow (bs + 1) 53 7 (R j).1 (R j).2.length ((R j).2.flatMap TieD.cells)
  sep : ∀ i j, i < 6 → j < 6 → i ≠ j → ∀ k, (R i).1.ownBlock = some k → (R j).1.ownBlock ≠ some k
  off : ∀ j, j < 6 → (R j).1.ownBlock ≠ some bt

theorem Rws.kept {w w' : World} {bs bt : Nat} {R : Nat → Value × List TieD} (h : Rws w bs bt R) (hk : ∀ k, bs < k → k < w.heap.size → w'.heap[k]? = w.heap[k]?) : Rws w' bs bt R :=
  ⟨fun j hj => ownsRow_of_block (h.own j hj) (fun k hb => hk k ((h.own j hj).lt k hb).1 ((h.own j hj).lt k hb).2), h.sep, h.off⟩

theorem Rws.new {w : World} {bs bt bt' : Nat} {R : Nat → Value × List TieD} (h : Rws w bs bt R) (hb : w.heap.size ≤ bt') : Rws w bs bt' R :=
  ⟨h.own, h.sep, fun j hj e => absurd ((h.own j hj).lt _ e).2 (by omega)⟩
theorem Rws.new' {w w' : World} {bs bt bt' : Nat} {R : Nat → Value × List TieD} (h : Rws w' bs bt R) (hb : w.heap.size ≤ bt') (h0 : Rws w bs bt R) : Rws w' bs bt' R :=
  ⟨h.own, h.sep, fun j hj e => absurd ((h0.own j hj).lt _ e).2 (by omega)⟩
theorem Rws.home {w : World} {bs bt : Nat} {R : Nat → Value × List TieD} (h : Rws w bs bt R) : Rws w bs bs R :=
  ⟨h.own, h.sep, fun j hj e => absurd ((h.own j hj).lt _ e).1 (by omega)⟩

theorem Rws.app {w w' : World} {bs bt : Nat} {R : Nat → Value × List TieD} (h : Rws w bs bt R) (j : Nat) (hj : j < 6) (t : TieD) (g cap : Nat) (hbt : bt < w.heap.size)
    (hown : w'.ownsRow (bs + 1) 53 7 (.slice (some ⟨g, 0, none⟩) ((R j).2.length + 1) cap) ((R j).2.length + 1) ((R j).2.flatMap TieD.cells ++ t.cells)) (hg : w.grownBy w' (R j).1.ownBlock) (hat : (R j).1.ownBlock = some g ∨ g = w.heap.size) :
    Rws w' bs bt (upd R j (.slice (some ⟨g, 0, none⟩) ((R j).2.length + 1) cap, (R j).2 ++ [t])) := by
  refine ⟨fun i hi => ?_, fun i k hi hk hne b hb => ?_, fun i hi => ?_⟩
  · by_cases e : i = j
    · subst e
      rw [upd_same]
      simpa using hown
    · rw [upd_other _ _ _ _ e]
      exact ownsRow_of_block (h.own i hi) (fun b hb => hg.block b ((h.own i hi).lt b hb).2 (fun e2 => h.sep i j hi hj e b hb e2.symm))
  · by_cases e : i = j
    · subst e
      rw [upd_same] at hb
      rw [upd_other _ _ _ _ (Ne.symm hne)]
      simp only [Value.ownBlock, Option.some.injEq] at hb
      subst hb
      rcases hat with e2 | e2
      · exact fun e3 => h.sep k i hk hi (Ne.symm hne) _ e3 e2
      · exact fun e3 => absurd ((h.own k hk).lt _ e3).2 (by omega)
    · rw [upd_other _ _ _ _ e] at hb
      by_cases e' : k = j
      · subst e'
        rw [upd_same]
        simp only [Value.ownBlock]
        intro e3
        simp only [Option.some.injEq] at e3
        subst e3
        rcases hat with e2 | e2
        · exact h.sep i k hi hk hne _ hb e2
        · exact absurd ((h.own i hi).lt _ hb).2 (by omega)
      · rw [upd_other _ _ _ _ e']
        exact h.sep i k hi hk hne b hb
  · by_cases e : i = j
    · subst e
      rw [upd_same]
      simp only [Value.ownBlock]
      intro e3
      simp only [Option.some.injEq] at e3
      subst e3
      rcases hat with e2 | e2
      · exact h.off i hi e2
      · omega
    · rw [upd_other _ _ _ _ e]
      exact h.off i hi

theorem info53 : (Ybad.prog.info? 53).map (fun i => (i.zero.map (fun z => z.cells.size), i.size, i.bytes)) = some (some 7, 7, 72) := by kernel_rfl
theorem info53' : ∃ i z, Ybad.prog.info? 53 = some i ∧ i.zero = some z ∧ z.cells.size = 7 ∧ i.size = 7 ∧ i.bytes = 72 := by
  have h := info53
  cases hi : Ybad.prog.info? 53 with
  | none => rw [hi] at h; simp at h
  | some i =>
    rw [hi] at h
    simp at h
    obtain ⟨⟨z, h1, h2⟩, h3, h4⟩ := h
    exact ⟨i, z, rfl, h1, h2, h3, h4⟩

/-- One tie is appended to row j. -/
theorem rows_append {ops : Array Oper} {rest : List Oper} {o : Oper} {a : Act} {Q : Exit → Act → World → Prop} (hgd : o.guard = none) (s x : Operand)
    (ho : o.op = .call { callee := .builtin .append, args := #[s, x], argTypes := #[24, 24] })
    (w : World) (bs bt : Nat) (R : Nat → Value × List TieD) (h : Rws w bs bt R) (hbs : bs < w.heap.size) (hbt : bt < w.heap.size) (j : Nat) (hj : j < 6) (hs : a.eval s = (R j).1) (blk : Nat) (hx : a.eval x = .slice (some ⟨blk, 0, none⟩) 1 1)
    (t : TieD) (hnews : ∀ i u, t.cells[i]? = some u → w.cell? ((⟨blk, 0, none⟩ : Addr).add i) = some u) (hlen : (R j).2.length ≤ 256)
    (hh : ∀ g c w', Rws w' bs bt (upd R j (.slice (some ⟨g, 0, none⟩) ((R j).2.length + 1) c, (R j).2 ++ [t])) → w.grownBy w' (R j).1.ownBlock → w'.heap[bt]? = w.heap[bt]? → Below (bs + 1) w w' → wpList Ybad.prog ops Q rest (a.put o.dst (.slice (some ⟨g, 0, none⟩) ((R j).2.length + 1) c)) w') : wpList Ybad.prog ops Q (o :: rest) a w := by
  obtain ⟨i, z, hi, hz0, hz1, hz2, hz3⟩ := info53'
  refine wpList_append_lies w hgd s x 24 ho (bs + 1) 53 i z 7 72 Ybad.underlying24 hi hz0 hz2 hz3 hz1 (by decide) (R j).1 (R j).2.length _ hs (h.own j hj) ⟨blk, 0, none⟩ 1 1 t.cells hx rfl hnews (tie_oneCell t) (by decide) (by unfold maxLen; omega) (by omega) hbs _ rfl ?_
  intro g cap w' hown hg hat hlt
  refine hh g cap w' (h.app j hj t g cap hbt hown hg hat) hg (hg.block bt hbt (fun e => h.off j hj e.symm)) ?_
  exact (Below.refl (bs + 1) w).grown hg hbs (fun k hk => ((h.own j hj).lt k hk).1)
end Go.Proofs.YbulkagqaDoor
