import Derived.Test.YbulkagqaDoorMp
import Derived.Test.YbulkagqaDoorE3
namespace Go.Proofs.YbulkagqaDoor
open Go.RowKit Go.Lib
set_option linter.unusedVariables false
set_option linter.unusedSimpArgs false

/-- The six rows of newBreaks: all, at (four names), voters: element type, cells, type. -/
def te (j : Nat) : TypeId := if j = 5 then 61 else 3
def sz (j : Nat) : Nat := if j = 5 then 2 else 1
def ts (j : Nat) : TypeId := if j = 5 then 31 else 29
structure Row where
  v : Value
  n : Nat
  cs : List Value

structure Six (w : World) (base : Nat) (R : Nat → Row) : Prop where
  own : ∀ j, j < 6 → w.ownsRow base (te j) (sz j) (R j).v (R j).n (R j).cs
  sep : ∀ i j, i < 6 → j < 6 → i ≠ j → ∀ k, (R i).v.ownBlock = some k → (R j).v.ownBlock ≠ some k

theorem Six.kept {w w' : World} {base : Nat} {R : Nat → Row} (h : Six w base R) (hk : ∀ k, base ≤ k → k < w.heap.size → w'.heap[k]? = w.heap[k]?) : Six w' base R :=
  ⟨fun j hj => ownsRow_of_block (h.own j hj) (fun k hb => hk k ((h.own j hj).lt k hb).1 ((h.own j hj).lt k hb).2), h.sep⟩

theorem Six.app {w w' : World} {base : Nat} {R : Nat → Row} (h : Six w base R) (j : Nat) (hj : j < 6) (r : Row)
    (hown : w'.ownsRow base (te j) (sz j) r.v r.n r.cs) (hg : w.grownBy w' (R j).v.ownBlock) (hat : ∀ g, r.v.ownBlock = some g → (R j).v.ownBlock = some g ∨ w.heap.size ≤ g) : Six w' base (upd R j r) := by
  refine ⟨fun i hi => ?_, fun i k hi hk hne b hb => ?_⟩
  · by_cases e : i = j
    · subst e; rw [upd_same]; exact hown
    · rw [upd_other _ _ _ _ e]
      exact ownsRow_of_block (h.own i hi) (fun b hb => hg.block b ((h.own i hi).lt b hb).2 (fun e2 => h.sep i j hi hj e b hb e2.symm))
  · by_cases e : i = j
    · subst e
      rw [upd_same] at hb
      rw [upd_other _ _ _ _ (Ne.symm hne)]
      rcases hat b hb with e2 | e2
      · exact fun e3 => h.sep k i hk hi (Ne.symm hne) _ e3 e2
      · exact fun e3 => absurd ((h.own k hk).lt _ e3).2 (by omega)
    · rw [upd_other _ _ _ _ e] at hb
      by_cases e' : k = j
      · subst e'
        rw [upd_same]
        intro e3
        rcases hat b e3 with e2 | e2
        · exact h.sep i k hi hk hne _ hb e2
        · exact absurd ((h.own i hi).lt _ hb).2 (by omega)
      · rw [upd_other _ _ _ _ e']
        exact h.sep i k hi hk hne b hb

/-- A block that is no row of numbers or of turns. -/
def NoRow : Obj → Prop
  | .cells _ e _ => e ≠ 3 ∧ e ≠ 61
  | _ => True
theorem Six.apart {w : World} {base : Nat} {R : Nat → Row} (h : Six w base R) {b : Nat} {o : Obj} (hb : w.heap[b]? = some o) (ho : NoRow o) (j : Nat) (hj : j < 6) : some b ≠ (R j).v.ownBlock := by
  intro e
  rcases (h.own j hj).2 with ⟨e1, _⟩ | ⟨g, cap, cur, e1, _, e2, _⟩
  · rw [e1] at e; cases e
  · rw [e1] at e
    simp only [Value.ownBlock, Option.some.injEq] at e
    subst e
    rw [e2] at hb
    simp only [Option.some.injEq] at hb
    subst hb
    unfold NoRow te at ho
    by_cases h5 : j = 5
    · simp [h5] at ho
    · simp [h5] at ho

/-- The state of newBreaks: k's block bk, the map's block bm; below bm nothing has turned since wI. -/
structure NB (wI w : World) (bk bm : Nat) (R : Nat → Row) (v0 v5 : Value) (f : Nat → Option Value) : Prop where
  six : Six w (bk + 1) R
  c0 : w.cell? ⟨bk, 0, none⟩ = some v0
  c1 : w.cell? ⟨bk, 1, none⟩ = some (.map (some bm))
  c2 : w.cell? ⟨bk, 2, none⟩ = some v5
  fz : ∀ i, w.frozen? ⟨bk, i, none⟩ = false
  mp : MapIs w bm f
  low : Below bm wI w
  lt : bm < bk
  ltk : bk < w.heap.size

/-- What lies beside the rows, k's block and the map stays. -/
structure Beside (w w' : World) (bk bm : Nat) : Prop where
  size : w.heap.size ≤ w'.heap.size
  keep : ∀ b o, w.heap[b]? = some o → NoRow o → b ≠ bk → b ≠ bm → w'.heap[b]? = some o

theorem Beside.refl (w : World) (bk bm : Nat) : Beside w w bk bm := ⟨Nat.le_refl _, fun _ _ h _ _ _ => h⟩
theorem Beside.trans {a b c : World} {bk bm : Nat} (h : Beside a b bk bm) (k : Beside b c bk bm) : Beside a c bk bm := ⟨Nat.le_trans h.size k.size, fun i o hi ho h1 h2 => k.keep i o (h.keep i o hi ho h1 h2) ho h1 h2⟩
theorem Beside.of_heap {w w' : World} (bk bm : Nat) (h : w'.heap = w.heap) : Beside w w' bk bm := ⟨by rw [h]; exact Nat.le_refl _, fun _ _ hb _ _ _ => by rw [h]; exact hb⟩
theorem Beside.push {w w' : World} (bk bm : Nat) (o : Obj) (h : w'.heap = w.heap.push o) : Beside w w' bk bm := ⟨by rw [h]; simp, fun i ob hb _ _ _ => by
  have := (Array.getElem?_eq_some_iff.1 hb).1
  rw [h, Array.getElem?_push, if_neg (by omega)]; exact hb⟩
theorem Beside.setCell (w : World) (bk bm i : Nat) (v : Value) : Beside w (w.setCell ⟨bk, i, none⟩ v) bk bm := ⟨by simp [World.setCell], fun b o hb _ h1 _ => (Below.heap_setCell w ⟨bk, i, none⟩ v b h1).trans hb⟩
theorem Beside.grown {w w' : World} {bk bm : Nat} (hg : w.grownBy w' (some bm)) : Beside w w' bk bm := ⟨hg.size, fun b o hb _ _ h2 => (hg.block b (Array.getElem?_eq_some_iff.1 hb).1 (by simpa using h2)).trans hb⟩

theorem NB.of_heap {wI w W : World} {bk bm : Nat} {R : Nat → Row} {v0 v5 : Value} {f : Nat → Option Value} (h : NB wI w bk bm R v0 v5 f) (hH : W.heap = w.heap) (hos : W.os = w.os) (hta : W.tape = w.tape) (hou : W.output = w.output) : NB wI W bk bm R v0 v5 f := by
  have hb : ∀ k : Nat, W.heap[k]? = w.heap[k]? := fun k => by rw [hH]
  have ec : ∀ a, W.cell? a = w.cell? a := fun a => World.cell?_of_block (hb _)
  exact ⟨h.six.kept (fun k _ _ => hb k), (ec _).trans h.c0, (ec _).trans h.c1, (ec _).trans h.c2, fun i => (World.frozen?_of_block (hb _)).trans (h.fz i), h.mp.kept (hb _), ⟨hos.trans h.low.os, hta.trans h.low.tape, hou.trans h.low.output, by rw [hH]; exact h.low.size, fun k hk => (hb k).trans (h.low.block k hk)⟩, h.lt, by rw [hH]; exact h.ltk⟩

theorem NB.push {wI w W : World} {bk bm : Nat} {R : Nat → Row} {v0 v5 : Value} {f : Nat → Option Value} (h : NB wI w bk bm R v0 v5 f) (o : Obj) (hH : W.heap = w.heap.push o) (hos : W.os = w.os) (hta : W.tape = w.tape) (hou : W.output = w.output) : NB wI W bk bm R v0 v5 f := by
  have hb : ∀ k : Nat, k < w.heap.size → W.heap[k]? = w.heap[k]? := fun k hk => by rw [hH, Array.getElem?_push, if_neg (by omega)]
  have ec : ∀ a : Addr, a.block < w.heap.size → W.cell? a = w.cell? a := fun a ha => World.cell?_of_block (hb _ ha)
  have hk := h.ltk
  have hm := h.lt
  exact ⟨h.six.kept (fun k _ hk => hb k hk), (ec _ hk).trans h.c0, (ec _ hk).trans h.c1, (ec _ hk).trans h.c2, fun i => (World.frozen?_of_block (hb _ hk)).trans (h.fz i), h.mp.kept (hb _ (by omega)), ⟨hos.trans h.low.os, hta.trans h.low.tape, hou.trans h.low.output, by rw [hH]; simp; have := h.low.size; omega, fun k hk2 => (hb k (by omega)).trans (h.low.block k hk2)⟩, h.lt, by rw [hH]; simp; omega⟩

theorem NB.set0 {wI w : World} {bk bm : Nat} {R : Nat → Row} {v0 v5 : Value} {f : Nat → Option Value} (h : NB wI w bk bm R v0 v5 f) (v : Value) : NB wI (w.setCell ⟨bk, 0, none⟩ v) bk bm R v v5 f := by
  have o : ∀ i, i ≠ 0 → (w.setCell ⟨bk, 0, none⟩ v).cell? ⟨bk, i, none⟩ = w.cell? ⟨bk, i, none⟩ := fun i hi => World.cell?_setCell_other w ⟨bk, 0, none⟩ ⟨bk, i, none⟩ v (by intro e; exact hi (congrArg Addr.off e).symm)
  have hb : ∀ k : Nat, k ≠ bk → (w.setCell ⟨bk, 0, none⟩ v).heap[k]? = w.heap[k]? := fun k hk => Below.heap_setCell w ⟨bk, 0, none⟩ v k hk
  have hm := h.lt
  exact ⟨h.six.kept (fun k hk _ => hb k (by omega)), World.cell?_setCell_same w _ _ h.c0, (o 1 (by decide)).trans h.c1, (o 2 (by decide)).trans h.c2, fun i => (World.frozen?_setCell w _ _ _).trans (h.fz i), h.mp.kept (hb _ (by omega)), h.low.setCell (by simp; omega) v, h.lt, by simp [World.setCell]; exact h.ltk⟩
theorem NB.set2 {wI w : World} {bk bm : Nat} {R : Nat → Row} {v0 v5 : Value} {f : Nat → Option Value} (h : NB wI w bk bm R v0 v5 f) (v : Value) : NB wI (w.setCell ⟨bk, 2, none⟩ v) bk bm R v0 v f := by
  have o : ∀ i, i ≠ 2 → (w.setCell ⟨bk, 2, none⟩ v).cell? ⟨bk, i, none⟩ = w.cell? ⟨bk, i, none⟩ := fun i hi => World.cell?_setCell_other w ⟨bk, 2, none⟩ ⟨bk, i, none⟩ v (by intro e; exact hi (congrArg Addr.off e).symm)
  have hb : ∀ k : Nat, k ≠ bk → (w.setCell ⟨bk, 2, none⟩ v).heap[k]? = w.heap[k]? := fun k hk => Below.heap_setCell w ⟨bk, 2, none⟩ v k hk
  have hm := h.lt
  exact ⟨h.six.kept (fun k hk _ => hb k (by omega)), (o 0 (by decide)).trans h.c0, (o 1 (by decide)).trans h.c1, World.cell?_setCell_same w _ _ h.c2, fun i => (World.frozen?_setCell w _ _ _).trans (h.fz i), h.mp.kept (hb _ (by omega)), h.low.setCell (by simp; omega) v, h.lt, by simp [World.setCell]; exact h.ltk⟩

theorem NB.putm {wI w w' : World} {bk bm : Nat} {R : Nat → Row} {v0 v5 : Value} {f f' : Nat → Option Value} (h : NB wI w bk bm R v0 v5 f) (hg : w.grownBy w' (some bm)) (hm : MapIs w' bm f') : NB wI w' bk bm R v0 v5 f' := by
  have hlt := h.lt
  have hk := h.ltk
  have hb : ∀ k : Nat, k < w.heap.size → k ≠ bm → w'.heap[k]? = w.heap[k]? := fun k hk hne => hg.block k hk (by simpa using hne)
  have ec : ∀ i, w'.cell? ⟨bk, i, none⟩ = w.cell? ⟨bk, i, none⟩ := fun i => World.cell?_of_block (a := ⟨bk, i, none⟩) (hb bk hk (by omega))
  exact ⟨h.six.kept (fun k h1 h2 => hb k h2 (by omega)), (ec _).trans h.c0, (ec _).trans h.c1, (ec _).trans h.c2, fun i => (World.frozen?_of_block (a := ⟨bk, i, none⟩) (hb bk hk (by omega))).trans (h.fz i), hm, ⟨hg.os.trans h.low.os, hg.tape.trans h.low.tape, hg.output.trans h.low.output, Nat.le_trans h.low.size hg.size, fun k hk2 => (hb k (by omega) (by omega)).trans (h.low.block k hk2)⟩, h.lt, Nat.lt_of_lt_of_le hk hg.size⟩

/-- A row turns. -/
theorem NB.row {wI w w' : World} {bk bm : Nat} {R : Nat → Row} {v0 v5 : Value} {f : Nat → Option Value} (h : NB wI w bk bm R v0 v5 f) (j : Nat) (hj : j < 6) (r : Row)
    (hown : w'.ownsRow (bk + 1) (te j) (sz j) r.v r.n r.cs) (hg : w.grownBy w' (R j).v.ownBlock) (hat : ∀ g, r.v.ownBlock = some g → (R j).v.ownBlock = some g ∨ w.heap.size ≤ g) : NB wI w' bk bm (upd R j r) v0 v5 f := by
  have hlt := h.lt
  have hk := h.ltk
  have hb : ∀ k : Nat, k ≤ bk → w'.heap[k]? = w.heap[k]? := fun k hk2 => hg.block k (by omega) (fun e => by have := ((h.six.own j hj).lt k e.symm).1; omega)
  have ec : ∀ i, w'.cell? ⟨bk, i, none⟩ = w.cell? ⟨bk, i, none⟩ := fun i => World.cell?_of_block (a := ⟨bk, i, none⟩) (hb bk (by omega))
  exact ⟨h.six.app j hj r hown hg hat, (ec _).trans h.c0, (ec _).trans h.c1, (ec _).trans h.c2, fun i => (World.frozen?_of_block (a := ⟨bk, i, none⟩) (hb bk (by omega))).trans (h.fz i), h.mp.kept (hb _ (by omega)), ⟨hg.os.trans h.low.os, hg.tape.trans h.low.tape, hg.output.trans h.low.output, Nat.le_trans h.low.size hg.size, fun k hk2 => (hb k (by omega)).trans (h.low.block k hk2)⟩, h.lt, Nat.lt_of_lt_of_le hk hg.size⟩
theorem NB.row_beside {wI w w' : World} {bk bm : Nat} {R : Nat → Row} {v0 v5 : Value} {f : Nat → Option Value} (h : NB wI w bk bm R v0 v5 f) (j : Nat) (hj : j < 6) (hg : w.grownBy w' (R j).v.ownBlock) : Beside w w' bk bm :=
  ⟨hg.size, fun b o hb ho _ _ => (hg.block b (Array.getElem?_eq_some_iff.1 hb).1 (h.six.apart hb ho j hj)).trans hb⟩

theorem info3 : (Ybad.prog.info? 3).map (fun i => (i.zero.map (fun z => z.cells.size), i.size, i.bytes)) = some (some 1, 1, 8) := by kernel_rfl
theorem info61 : (Ybad.prog.info? 61).map (fun i => (i.zero.map (fun z => z.cells.size), i.size, i.bytes)) = some (some 2, 2, 24) := by kernel_rfl
theorem infoRow (j : Nat) : ∃ i z, Ybad.prog.info? (te j) = some i ∧ i.zero = some z ∧ z.cells.size = sz j ∧ i.size = sz j ∧ i.bytes = (if j = 5 then 24 else 8) := by
  have g : ∀ e s b, (Ybad.prog.info? e).map (fun i => (i.zero.map (fun z => z.cells.size), i.size, i.bytes)) = some (some s, s, b) → ∃ i z, Ybad.prog.info? e = some i ∧ i.zero = some z ∧ z.cells.size = s ∧ i.size = s ∧ i.bytes = b := by
    intro e s b h
    cases hi : Ybad.prog.info? e with
    | none => rw [hi] at h; simp at h
    | some i =>
      rw [hi] at h
      simp at h
      obtain ⟨⟨z, h1, h2⟩, h3, h4⟩ := h
      exact ⟨i, z, rfl, h1, h2, h3, h4⟩
  unfold te sz
  by_cases h : j = 5
  · simp only [h, if_true]; exact g _ _ _ info61
  · simp only [h, if_false]; exact g _ _ _ info3
theorem underRow (j : Nat) : Ybad.prog.underlying (ts j) = some (.slice (te j)) := by
  unfold ts te
  by_cases h : j = 5
  · simp only [h, if_true]; exact Ybad.underlying31
  · simp only [h, if_false]; exact Ybad.underlying29

/-- One element is appended to row j, at a step of a region that draws its order. -/
theorem step_row {ops : Array Oper} {o : Oper} {a : Act} {K : Act → World → Prop} {Q : Exit → Act → World → Prop} {E : Prop} (hgd : o.guard = none) (s x : Operand) (j : Nat) (hj : j < 6) (t : TypeId) (htt : t = ts j)
    (ho : o.op = .call { callee := .builtin .append, args := #[s, x], argTypes := #[t, t] })
    (wI w : World) (bk bm : Nat) (R : Nat → Row) (v0 v5 : Value) (f : Nat → Option Value) (h : NB wI w bk bm R v0 v5 f) (hs : a.eval s = (R j).v) (hx : a.eval x = .slice (some ⟨w.heap.size, 0, none⟩) 1 1)
    (news : List Value) (hn : news.length = sz j) (h1 : ∀ u ∈ news, u.oneCell' = true) (hlen : (R j).n ≤ 2000)
    (W : World) (e : TypeId) (hH : W.heap = w.heap.push (.cells news.toArray e)) (hos : W.os = w.os) (hta : W.tape = w.tape) (hou : W.output = w.output)
    (hK : ∀ g c w', NB wI w' bk bm (upd R j ⟨.slice (some ⟨g, 0, none⟩) ((R j).n + 1) c, (R j).n + 1, (R j).cs ++ news⟩) v0 v5 f → Beside w w' bk bm → K (a.put o.dst (.slice (some ⟨g, 0, none⟩) ((R j).n + 1) c)) w') :
    if Region.wanted o (yielded ops a.tmps) = true then Oper.wp Ybad.prog o a W K Q else E := by
  subst htt
  obtain ⟨i, z, hi, hz0, hz1, hz2, hz3⟩ := infoRow j
  have hP := h.push _ hH hos hta hou
  have hsz : W.heap.size = w.heap.size + 1 := by rw [hH]; simp
  have hk := hP.ltk
  refine step_append_lies W hgd s x (ts j) ho (bk + 1) (te j) i z (sz j) _ (underRow j) hi hz0 hz2 hz3 hz1 (by unfold sz; split <;> omega) (R j).v (R j).n (R j).cs hs (hP.six.own j hj) ⟨w.heap.size, 0, none⟩ 1 1 news hx (by omega)
    (World.news_of_block (cs := news.toArray) (t := e) (fr := (0, 0)) (by rw [hH]; simp)) h1 (by decide) (by unfold maxLen; omega) (by split <;> omega) (by omega) _ rfl ?_
  intro g cap w' hown hg hat hlt
  have hat' : ∀ g', (Value.slice (some ⟨g, 0, none⟩) ((R j).n + 1) cap).ownBlock = some g' → (R j).v.ownBlock = some g' ∨ W.heap.size ≤ g' := by
    intro g' hg'
    simp only [Value.ownBlock, Option.some.injEq] at hg'
    subst hg'
    rcases hat with e1 | e1
    · exact .inl e1
    · exact .inr (by omega)
  exact hK g cap w' (hP.row j hj ⟨_, _, _⟩ hown hg hat') ((Beside.push bk bm _ hH).trans (hP.row_beside j hj hg))
end Go.Proofs.YbulkagqaDoor
