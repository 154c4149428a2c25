import Derived.Test.YbulkagqaW6
namespace Go.Proofs.Ybulkagqa
open Go.RowKit
set_option linter.unusedVariables false
set_option linter.unusedSimpArgs false

theorem info31 : (Yba.prog.info? 31).map (fun i => (i.zero, i.size, i.bytes)) = some (some (.pointer none), 1, 8) := by kernel_rfl

set_option maxHeartbeats 2000000 in
set_option maxRecDepth 100000 in
theorem newShared_any (aT : Option Addr) (cT : Nat) (ts : List TieD) (fv : Value) (c1 c2 : Array Value) (w : World) (hfv : fv = .func (.func 4) c1 c2) (hT : TiesAt w (.slice aT ts.length cT) ts) (hn : ts.length ≤ 4096) (hTT : ∀ t ∈ ts, -2147483648 ≤ t.T ∧ t.T ≤ 2147483647) :
    Calls Yba.prog 5 #[.slice aT ts.length cT, fv] w fun e w' => ∃ bs gF cF gB, e = .returned (.pointer (some ⟨bs, 0, none⟩)) ∧ Sh w' bs gF cF gB (spansL ts).length (.slice aT ts.length cT) fv (spansL ts) (fun _ => none) ∧
      w.heap.size ≤ bs ∧ bs < w'.heap.size ∧ w.heap.size ≤ gF ∧ gF < w'.heap.size ∧ w.heap.size ≤ gB ∧ gB < w'.heap.size ∧ gB ≠ bs ∧ gB ≠ gF ∧ Below w.heap.size w w' := by
  obtain ⟨i31, hi, hz0, hz1, hz2⟩ := info_parts info31
  subst hfv
  have hsp := spans_any w.heap.size [(.slice aT ts.length cT, ts)] (w.alloc (.cells #[.slice aT ts.length cT] 23)) (by simp) (by simpa [tiesOf] using hn) (by
    intro j p hp
    match j, hp with
    | 0, hp =>
      simp at hp; subst hp
      exact ⟨by simp, hT.later (fun k hk => Below.heap_alloc _ _ _ hk)⟩) (by simpa [tiesOf] using hTT)
  have e1 : tiesOf [(Value.slice aT ts.length cT, ts)] = ts := by simp [tiesOf]
  rw [e1] at hsp
  simp only [List.length_cons, List.length_nil, Nat.zero_add] at hsp
  have hfl : (spansL ts).length ≤ 9000 := by
    have h1 := ddSort_len (firstsL ts)
    have h2 := turnsAll_len ts
    have h3 : (firstsL ts).length = (turnsAll ts).length + 1 := by simp [firstsL]
    unfold spansL; omega
  have HSP := hid hsp
  clear hsp hT hTT e1
  generalize hfs : spansL ts = fs at *
  have HFS := hid hfs
  clear hfs
  go_enter Yba.func5, Yba.ntmps5
  go_wp2_with (first
    | (go_at_call 8; refine HSP.out.mono ?_; rintro e w1 ⟨gF, cF, rfl, hcell, hge, hlt, hb1⟩)
    | (at_make; refine wpList_make_full _ rfl _ _ 36 rfl w1.heap.size 31 i31 _ 1 Yba.underlying36 hi hz0 hz1 .i64 .i64 _ _ fs.length rfl rfl rfl rfl (by rw [hz2]; omega) (by unfold maxLen; omega) (Nat.le_refl _) ?_; intro w2 hown2 hg2))
  have hb2 : Below w.heap.size w w1 := ((Below.refl _ w).alloc (Nat.le_refl _) _).trans (hb1.mono (by simp))
  have hs1 := hb2.size
  have hs2 := hg2.size
  have hge' : w.heap.size ≤ gF := by simp at hge; omega
  have hb3 : Below w.heap.size w w2 := hb2.grown hg2 hs1 (fun k hk => by cases hk)
  have hmade : (madeCells (Value.pointer none).cells (fs.length * 1)).toList = List.replicate fs.length (Value.pointer none) := by
    rw [Nat.mul_one]; exact toList_madeCells_one _ _
  rw [hmade] at hown2
  have hblt := hown2.lt w1.heap.size rfl
  go_ret
  refine ⟨w2.heap.size, gF, cF, w1.heap.size, rfl, ⟨?_, ?_, ?_, ?_, ?_, ?_, ?_⟩, by omega, by simp, hge', by simp; omega, by omega, by simp; omega, by omega, by omega, hb3.alloc (by omega) _⟩
  · rw [World.cell?_alloc_new]; rfl
  · rw [World.cell?_alloc_new]; rfl
  · rw [World.cell?_alloc_new]; rfl
  · rw [World.cell?_alloc_new]; rfl
  · intro j hj
    rw [World.cell?_alloc_lt _ _ _ (by show gF < _; omega), World.cell?_of_block (w := w1) (a := ⟨gF, j, none⟩) (hg2.block gF hlt (by simp))]
    exact hcell j hj
  · intro j hj
    rw [World.cell?_alloc_lt _ _ _ (by show w1.heap.size < _; omega), World.ownsRow.cellAt hown2 j (by omega)]
    simp [hj, ptr]
  · intro j hj
    rw [World.frozen?_of_block (w := w2) (a := ⟨w1.heap.size, j, none⟩) (Below.heap_alloc _ _ _ (by show w1.heap.size < _; omega))]
    exact World.ownsRow.frozenAt hown2 j
end Go.Proofs.Ybulkagqa
