import Derived.Test.YbulkagqaDoorF1
import Derived.Test.YbulkagqaDoorW1
import Derived.Test.YbulkagqaDoorE2
import Derived.Shelf.Slices.In.SortNone
namespace Go.Proofs.YbulkagqaDoor
open Go.RowKit Go.Lib
open Go.Sort (Holds putRow grow holds_putRow holds_grow holds_ahead putCells heap_grow_old mapBlock onCells)
set_option linter.unusedVariables false
set_option linter.unusedSimpArgs false

/-! ### The rules -/
structure RulesAt (w : World) : Prop where
  ex : ∃ bm, w.cell? ⟨0, 0, none⟩ = some (.map (some bm)) ∧ bm < w.heap.size ∧ ∀ W : World, W.heap[bm]? = w.heap[bm]? → ∀ r, r < 11 → ∃ s o, (Instr.lookup 100 (.map (some bm)) (.string (rl r)) false).run Ybad.prog W = .ok (.agg #[.string s, .string o, .bool (decide (2 ≤ r ∧ r ≤ 5))]) W

theorem RulesAt.later {w W : World} (h : RulesAt w) (hb : ∀ k, k < w.heap.size → W.heap[k]? = w.heap[k]?) (hs : w.heap.size ≤ W.heap.size) : RulesAt W := by
  obtain ⟨bm, h1, h2, h3⟩ := h.ex
  have h0 : 0 < w.heap.size := World.block_lt_of_cell? w ⟨0, 0, none⟩ h1
  exact ⟨bm, (World.cell?_of_block (a := ⟨0, 0, none⟩) (hb 0 h0)).trans h1, by omega, fun W' hW' => h3 W' (hW'.trans (hb bm h2))⟩

set_option maxHeartbeats 1000000 in
set_option maxRecDepth 100000 in
theorem office_any (r : Nat) (w : World) (hr : r < 11) (h : RulesAt w) :
    Calls Ybad.prog 28 #[.string (rl r)] w fun e w' => e = .returned (.bool (decide (2 ≤ r ∧ r ≤ 5))) ∧ w' = w := by
  obtain ⟨bm, hc, hlt0, h3⟩ := h.ex
  clear hlt0
  obtain ⟨s, o, hrun⟩ := h3 w rfl r hr
  clear h3 h hr
  generalize decide (2 ≤ r ∧ r ≤ 5) = b at *
  generalize rl r = rs at *
  have hfd : Sem.run Ybad.prog (Instr.field 99 (.agg #[.string s, .string o, .bool b]) 2) w = .ok (.bool b) w := by kernel_rfl
  go_enter Ybad.func28, Ybad.ntmps28
  go_wp2
  go_ret
  exact ⟨rfl, rfl⟩

theorem rl_leg (r : Nat) (hr : r < 11) : ((rl r).toList == [108, 101, 103, 97, 108, 45, 114, 101, 112, 114, 101, 115, 101, 110, 116, 97, 116, 105, 118, 101]) = decide (r = 6) := by
  have hc : r = 0 ∨ r = 1 ∨ r = 2 ∨ r = 3 ∨ r = 4 ∨ r = 5 ∨ r = 6 ∨ r = 7 ∨ r = 8 ∨ r = 9 ∨ r = 10 := by omega
  rcases hc with rfl | rfl | rfl | rfl | rfl | rfl | rfl | rfl | rfl | rfl | rfl <;> simp [rl]

set_option maxHeartbeats 1000000 in
theorem isPost_any (r : Nat) (w : World) (hr : r < 11) (h : RulesAt w) :
    Calls Ybad.prog 18 #[.string (rl r)] w fun e w' => e = .returned (.bool (decide (2 ≤ r ∧ r ≤ 6))) ∧ w' = w := by
  have ho := office_any r w hr h
  have hl := rl_leg r hr
  by_cases h1 : 2 ≤ r ∧ r ≤ 5
  · rw [show decide (2 ≤ r ∧ r ≤ 5) = true by simp [h1]] at ho
    rw [show decide (2 ≤ r ∧ r ≤ 6) = true by simp; omega]
    clear h h1
    go_enter Ybad.func18, Ybad.ntmps18
    go_wp2_with (go_at_call 28; refine ho.mono ?_; rintro e w' ⟨rfl, rfl⟩)
    go_ret
    exact ⟨rfl, rfl⟩
  · rw [show decide (2 ≤ r ∧ r ≤ 5) = false by simp; omega] at ho
    have HV := hid (show decide (r = 6) = decide (2 ≤ r ∧ r ≤ 6) by
      by_cases h6 : r = 6
      · simp [h6]
      · have : ¬ (2 ≤ r ∧ r ≤ 6) := by omega
        simp [h6, this])
    rw [← HV.out]
    generalize decide (r = 6) = b at *
    clear h h1
    go_enter Ybad.func18, Ybad.ntmps18
    go_wp2_with (go_at_call 28; refine ho.mono ?_; rintro e w' ⟨rfl, rfl⟩)
    go_ret
    exact ⟨rfl, rfl⟩

/-! ### span -/
/-- The place of the span that holds d. -/
def ixN (fs : List Int) (d : Int) : Nat := fs.countP (· ≤ d) - 1

set_option maxHeartbeats 1000000 in
theorem spanC_any (bb bc g c : Nat) (fs : List Int) (x : Int) (w : World) (h0 : w.cell? ⟨bb, 0, none⟩ = some (.pointer (some ⟨bc, 0, none⟩))) (h6 : w.cell? ⟨bc, 6, none⟩ = some (.slice (some ⟨g, 0, none⟩) fs.length c))
    (hc : ∀ j, j < fs.length → w.cell? ⟨g, j, none⟩ = some (.int .i32 (fs.getD j 0))) (hs : fs.Pairwise (· < ·)) (hm : (-2147483648 : Int) ∈ fs) (hx : -2147483648 ≤ x) (hbig : fs.length ≤ 9000) :
    Calls Ybad.prog 15 #[.int .i32 x, .pointer (some ⟨bb, 0, none⟩)] w fun e w' => e = .returned (.int .i64 (ixN fs x : Nat)) ∧ ∃ q, w' = w.drewN q := by
  have h := spanOf_any g 0 c fs x w (by omega) (fun j hj => by rw [Nat.zero_add]; exact hc j hj) hs
  have hp : 0 < fs.countP (· ≤ x) := List.countP_pos_iff.2 ⟨_, hm, by simpa using hx⟩
  have he : ((fs.countP (· ≤ x) : Nat) - 1 : Int) = ((ixN fs x : Nat) : Int) := by unfold ixN; omega
  rw [he] at h
  generalize ixN fs x = m at *
  clear hc hs hm hx hp he
  generalize fs.length = n at *
  go_enter Ybad.func15, Ybad.ntmps15
  go_wp2_with (go_at_call 16; refine h.mono ?_; rintro e w' ⟨rfl, q, rfl⟩)
  go_ret
  exact ⟨rfl, q, rfl⟩

/-! ### Sort and Compact on a row of the call's own -/
theorem owns_put {α : Type} [Inhabited α] (enc : α → Value) (w : World) (base g cap n : Nat) (e : TypeId) (os : Array Obj) (cur : Array Value) (d : Array α) (size len : Nat) (hb : w.heap[g]? = some (.cells cur e (0, 0))) (hbase : base ≤ g) (hd : d.size ≤ cur.size) (hlen : len * size ≤ d.size) (h1 : len ≤ cap) (h2 : cap ≤ maxLen) (h3 : cur.size = cap * size) :
    (grow (putRow enc (Sort.ahead w n) g 0 d) os).ownsRow base e size (.slice (some ⟨g, 0, none⟩) len cap) len ((d.toList.map enc).take (len * size)) ∧ w.grownBy (grow (putRow enc (Sort.ahead w n) g 0 d) os) (some g) := by
  have hg : g < w.heap.size := (Array.getElem?_eq_some_iff.1 hb).1
  refine ⟨⟨by simp; omega, .inr ⟨g, cap, putCells enc 0 d cur, rfl, hbase, ?_, h1, h2, by simp [putCells, h3], ?_⟩⟩, ⟨rfl, rfl, rfl, by simp, fun k hk hne => ?_⟩⟩
  · rw [heap_grow_old _ _ (by simpa using hg)]
    simp [putRow, mapBlock, Sort.ahead, Array.getElem?_modify, hb, onCells]
  · apply List.ext_getElem?
    intro j
    by_cases hj : j < len * size
    · rw [List.getElem?_take_of_lt hj, List.getElem?_take_of_lt hj, Array.getElem?_toList]
      simp [putCells, show j < d.size by omega, show j < cur.size by omega]
    · rw [List.getElem?_take_eq_none (by omega), List.getElem?_take_eq_none (by omega)]
  · rw [heap_grow_old _ _ (by simpa using hk)]
    have : g ≠ k := fun e => hne (by rw [e])
    simp [putRow, mapBlock, Sort.ahead, Array.getElem?_modify, this]

theorem sort_row (w : World) (base : Nat) (v : Value) (zs : List Int) (hown : w.ownsRow base 3 1 v zs.length (zs.map (Value.int .i64))) (hl : zs.length ≤ 9000) :
    Calls Ybad.prog 20 #[v] w fun e w' => e = .returned (.tuple #[]) ∧ w'.ownsRow base 3 1 v zs.length ((zs.mergeSort leI).map (Value.int .i64)) ∧ w.grownBy w' v.ownBlock := by
  have hown' := hown
  rcases hown.2 with ⟨rfl, h0⟩ | ⟨g, cap, cur, rfl, hg, hb, h1, h2, h3, h4⟩
  · have hz : zs = [] := List.eq_nil_of_length_eq_zero h0
    subst hz
    exact (Any.slices_Sort_int_none Ybad.lays189 none 0 w).mono fun e w' ⟨he, hw⟩ => ⟨he, by subst hw; simpa using hown, by subst hw; exact World.grownBy.refl _ _⟩
  · have hH : Holds (Value.int .i64) w g 0 zs.toArray := holds_of_owns hown
    refine (Any.slices_Sort_int Ybad.lays189 g 0 cap zs w hH (Array.getElem?_eq_some_iff.1 hb).1 (by omega)).mono fun e w' ⟨he, n, os, hw⟩ => ?_
    have h := owns_put (Value.int .i64) w base g cap n 3 os cur (zs.mergeSort leI).toArray 1 zs.length hb hg (by simp; omega) (by simp) h1 h2 h3
    subst hw
    refine ⟨he, ?_, h.2⟩
    have h5 := h.1
    rw [List.take_of_length_le (by simp)] at h5
    simpa using h5

theorem compact_row (w : World) (base : Nat) (v : Value) (zs : List Int) (hown : w.ownsRow base 3 1 v zs.length (zs.map (Value.int .i64))) (hl : zs.length ≤ 9000) :
    Calls Ybad.prog 21 #[v] w fun e w' => ∃ v', e = .returned v' ∧ w'.ownsRow base 3 1 v' (dd zs).length ((dd zs).map (Value.int .i64)) ∧ w.grownBy w' v.ownBlock ∧ v'.ownBlock = v.ownBlock ∧ (∀ a n c, v = .slice a n c → v' = .slice a (dd zs).length c) := by
  rcases hown.2 with ⟨rfl, h0⟩ | ⟨g, cap, cur, rfl, hg, hb, h1, h2, h3, h4⟩
  · have hz : zs = [] := List.eq_nil_of_length_eq_zero h0
    subst hz
    exact (Any.slices_Compact_int_empty Ybad.lays20 none 0 w).mono fun e w' ⟨he, hw⟩ => ⟨_, he, by subst hw; simpa [dd] using hown, by subst hw; exact World.grownBy.refl _ _, rfl, fun a n c hv => by cases hv; rfl⟩
  · have hH : Holds (Value.int .i64) w g 0 zs.toArray := holds_of_owns hown
    have hle := dd_len zs
    have hcd : Lib.compactUpTo zs.toArray zs.toArray.size = dd zs := by
      have := compact_eq_dd zs
      simpa using this
    have hc := Any.slices_Compact_int_arr Ybad.lays20 g 0 cap zs.toArray w hH (by simp; omega) (by simpa using h1)
    rw [hcd] at hc
    simp only [List.size_toArray] at hc
    refine Calls.mono hc fun e w' ⟨he, q, hw⟩ => ?_
    have h := owns_put (Value.int .i64) w base g cap q 3 #[] cur (dd zs ++ List.replicate (zs.length - (dd zs).length) 0).toArray 1 (dd zs).length hb hg (by simp; omega) (by simp) (by omega) h2 h3
    have hge : grow (putRow (Value.int .i64) (Sort.ahead w q) g 0 (dd zs ++ List.replicate (zs.length - (dd zs).length) 0).toArray) #[] = w' := by
      rw [hw]; simp [grow]; rfl
    rw [hge] at h
    refine ⟨_, he, ?_, h.2, rfl, fun a n c hv => by cases hv; rfl⟩
    have h5 := h.1
    simpa using h5
end Go.Proofs.YbulkagqaDoor
