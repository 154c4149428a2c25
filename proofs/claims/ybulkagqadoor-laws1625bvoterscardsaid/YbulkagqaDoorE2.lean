import Derived.Test.YbulkagqaDoorW3
import Derived.Test.YbulkagqaDoorShelf
namespace Go.Proofs.YbulkagqaDoor
open Go.RowKit Go.Lib
set_option linter.unusedVariables false
set_option linter.unusedSimpArgs false

theorem add_block (a : Addr) (n : Nat) : (a.add n).block = a.block := by unfold Addr.add; split <;> rfl

theorem grow_any (n : Nat) (w : World) (hn : n ≤ 20000) :
    Calls Ybad.prog 27 #[.slice none 0 0, .int .i64 n] w fun e w' => ∃ v, e = .returned v ∧ w'.ownsRow w.heap.size 49 1 v 0 [] ∧ Below w.heap.size w w' := by
  by_cases h0 : n = 0
  · subst h0
    exact (Any8.slices_Grow_room Ybad.growD none 0 0 0 w (Nat.le_refl _) (by omega) (by omega) (by omega)).mono fun e w' ⟨he, hw⟩ => ⟨_, he, World.ownsRow_nil _ _ _ _, hw ▸ Below.refl _ _⟩
  · obtain ⟨i0, hi, hz⟩ : ∃ i0, Ybad.prog.info? 49 = some i0 ∧ (i0.zero, i0.size, i0.bytes) = (some (.int .i32 0), 1, 4) := by
      have h := info49
      cases hi : Ybad.prog.info? 49 with
      | none => rw [hi] at h; simp at h
      | some i => rw [hi] at h; exact ⟨i, rfl, by simpa using h⟩
    simp only [Prod.mk.injEq] at hz
    obtain ⟨hz0, hz1, hz2⟩ := hz
    have h := Any8.slices_Grow_grow Ybad.growD i0 (.int .i32 0) hi hz0 (by omega) none 0 0 n [] w (Nat.le_refl _) (by omega) (by rw [hz2]; omega) (by omega) (by simp) (fun _ => rfl) (fun a h => by cases h)
    refine Calls.mono h ?_
    intro e w' ⟨he, hw⟩
    refine ⟨_, he, ?_, ?_⟩
    · subst hw
      have hG := grownCap_ge w (0 + n) 0 (Ybad.growD_ren.t 25)
      have hM := grownCap_le_maxLen w (0 + n) 0 (Ybad.growD_ren.t 25) (by unfold maxLen; omega)
      generalize grownCap w (0 + n) 0 (Ybad.growD_ren.t 25) = G at *
      refine ⟨rfl, .inr ⟨w.heap.size, G, _, rfl, Nat.le_refl _, heap_alloc_new w.drew _, Nat.zero_le _, hM, ?_, by simp⟩⟩
      rw [Array.size_append, Array.size_append, size_zeroCells, size_zeroCells]
      simp [Value.cells]
      omega
    · subst hw
      exact ((Below.refl _ _).drew).alloc (Nat.le_refl _) _

set_option maxHeartbeats 2000000 in
set_option maxRecDepth 100000 in
/-- slices.Concat of two. -/
theorem concat_any (bs g1 o1 c1 g2 o2 c2 : Nat) (xs ys : List Int) (w : World) (hl : xs.length + ys.length ≤ 20000)
    (h0 : w.cell? ⟨bs, 0, none⟩ = some (.slice (some ⟨g1, o1, none⟩) xs.length c1)) (h1 : w.cell? ⟨bs, 1, none⟩ = some (.slice (some ⟨g2, o2, none⟩) ys.length c2))
    (hx : ∀ j u, (xs.map (Value.int .i32))[j]? = some u → w.cell? ((⟨g1, o1, none⟩ : Addr).add j) = some u) (hy : ∀ j u, (ys.map (Value.int .i32))[j]? = some u → w.cell? ((⟨g2, o2, none⟩ : Addr).add j) = some u)
    (l0 : bs < w.heap.size) (l1 : xs.length ≠ 0 → g1 < w.heap.size) (l2 : ys.length ≠ 0 → g2 < w.heap.size) :
    Calls Ybad.prog 17 #[.slice (some ⟨bs, 0, none⟩) 2 2] w fun e w' => ∃ v, e = .returned v ∧ w'.ownsRow w.heap.size 49 1 v (xs ++ ys).length ((xs ++ ys).map (Value.int .i32)) ∧ Below w.heap.size w w' := by
  obtain ⟨i0, hi, hz⟩ : ∃ i0, Ybad.prog.info? 49 = some i0 ∧ (i0.zero, i0.size, i0.bytes) = (some (.int .i32 0), 1, 4) := by
    have h := info49
    cases hi : Ybad.prog.info? 49 with
    | none => rw [hi] at h; simp at h
    | some i => rw [hi] at h; exact ⟨i, rfl, by simpa using h⟩
  simp only [Prod.mk.injEq] at hz
  obtain ⟨hz0, hz1, hz2⟩ := hz
  have HX := hid hx
  have HY := hid hy
  clear hx hy
  generalize hn1 : xs.length = n1 at *
  generalize hn2 : ys.length = n2 at *
  have HN1 := hid hn1
  have HN2 := hid hn2
  clear hn1 hn2
  go_enter Ybad.func17, Ybad.ntmps17
  go_wp2
  go_loopw [3, 11] (fun s3 s11 wr => ∃ j : Nat, j ≤ 2 ∧ s11 = .int .i64 j ∧ s3 = .int .i64 ((if 1 ≤ j then n1 else 0) + (if 2 ≤ j then n2 else 0) : Nat) ∧ wr = w) (fun _ s11 _ => 2 - (intOf s11).toNat)
  case atStart => exact ⟨0, by omega, rfl, rfl, rfl⟩
  case round =>
    obtain ⟨j, hj, rfl, rfl, rfl⟩ := hrel
    have hc : j = 0 ∨ j = 1 ∨ j = 2 := by omega
    clear hj
    rcases hc with rfl | rfl | rfl
    · simp only [Nat.reduceLeDiff, if_true, if_false, Nat.add_zero, Nat.zero_add]
      go_wp2
      go_roundw
      case rel => exact ⟨1, by omega, by go_num, by simp, trivial⟩
      case measure => simp [intOf]
    · simp only [Nat.reduceLeDiff, if_true, if_false, Nat.add_zero, Nat.zero_add]
      go_wp2
      go_roundw
      case rel => exact ⟨2, by omega, by go_num, by simp, trivial⟩
      case measure => simp [intOf]
    · simp only [Nat.reduceLeDiff, if_true, if_false]
      go_wp2_with (go_at_call 27; refine (grow_any (n1 + n2) _ (by omega)).mono ?_; rintro e w1 ⟨v, rfl, hown, hb⟩; have HOWN := hid hown; have HB := hid hb; clear hown hb)
      obtain ⟨w0, rfl⟩ : ∃ w0, w0 = wr := ⟨_, rfl⟩
      have HS0 := hid (HB.out.size)
      go_loopw [6, 27] (fun s6 s27 wq => ∃ (j : Nat) (L : List Int), j ≤ 2 ∧ s27 = .int .i64 j ∧ (j = 0 → L = []) ∧ (j = 1 → L = xs) ∧ (j = 2 → L = xs ++ ys) ∧ wq.ownsRow w0.heap.size 49 1 s6 L.length (L.map (Value.int .i32)) ∧ Below w0.heap.size w0 wq) (fun _ s27 _ => 2 - (intOf s27).toNat)
      case atStart => exact ⟨0, [], by omega, rfl, fun _ => rfl, fun h => absurd h (by omega), fun h => absurd h (by omega), HOWN.out, HB.out⟩
      case round =>
        obtain ⟨j, L, hj, rfl, e0, e1, e2, hown, hb⟩ := hrel
        have hc : j = 0 ∨ j = 1 ∨ j = 2 := by omega
        have hsz := hb.size
        rcases hc with rfl | rfl | rfl
        · obtain rfl := e0 rfl
          have q0 := (hb.cell (p := ⟨bs, 0, none⟩) l0).trans h0
          have HX2 : Hid (∀ j u, (xs.map (Value.int .i32))[j]? = some u → wr.cell? ((⟨g1, o1, none⟩ : Addr).add j) = some u) := hid (fun k u hk => (hb.cell (p := (⟨g1, o1, none⟩ : Addr).add k) (by rw [add_block]; exact l1 (fun h => by
            have : xs = [] := List.eq_nil_of_length_eq_zero (HN1.out.trans h)
            rw [this] at hk; simp at hk))).trans (HX.out k u hk))
          clear e0 e1 e2 hj
          have HB2 := hid hb
          have HO2 := hid hown
          clear hb hown
          go_wp2_with (first
            | (at_builtin; refine wpList_append_own _ rfl (.tmp 31) (.tmp 32) 39 rfl w0.heap.size 49 i0 (.int .i32 0) 1 4 Ybad.underlying39 hi hz0 hz1 hz2 rfl (by decide) _ _ _ rfl HO2.out ⟨g1, o1, none⟩ n1 c1 (xs.map (Value.int .i32)) rfl (by simp [HN1.out]) HX2.out (ints_oneCell _ _) (by unfold maxLen; simp; omega) (by simp; omega) hsz ?_; intro v' w2 hown3 hg3 _))
          have hb3 : Below w0.heap.size w0 w2 := HB2.out.grown hg3 hsz (fun k hk => (HO2.out.lt k hk).1)
          have HW := hid (show w2.ownsRow w0.heap.size 49 1 v' xs.length (xs.map (Value.int .i32)) from by simpa [HN1.out] using hown3)
          clear hown3 hg3
          go_wp2
          go_roundw
          case rel => exact ⟨1, xs, by omega, by go_num, fun h => absurd h (by omega), fun _ => rfl, fun h => absurd h (by omega), HW.out, hb3⟩
          case measure => simp [intOf]
        · obtain rfl := e1 rfl
          have q0 := (hb.cell (p := ⟨bs, 1, none⟩) l0).trans h1
          have HX2 : Hid (∀ j u, (ys.map (Value.int .i32))[j]? = some u → wr.cell? ((⟨g2, o2, none⟩ : Addr).add j) = some u) := hid (fun k u hk => (hb.cell (p := (⟨g2, o2, none⟩ : Addr).add k) (by rw [add_block]; exact l2 (fun h => by
            have : ys = [] := List.eq_nil_of_length_eq_zero (HN2.out.trans h)
            rw [this] at hk; simp at hk))).trans (HY.out k u hk))
          clear e0 e1 e2 hj
          have HB2 := hid hb
          have HO2 := hid hown
          clear hb hown
          have hLL : L.length = n1 := HN1.out
          go_wp2_with (first
            | (at_builtin; refine wpList_append_own _ rfl (.tmp 31) (.tmp 32) 39 rfl w0.heap.size 49 i0 (.int .i32 0) 1 4 Ybad.underlying39 hi hz0 hz1 hz2 rfl (by decide) _ _ _ rfl HO2.out ⟨g2, o2, none⟩ n2 c2 (ys.map (Value.int .i32)) rfl (by simp [HN2.out]) HX2.out (ints_oneCell _ _) (by unfold maxLen; omega) (by omega) hsz ?_; intro v' w2 hown3 hg3 _))
          have hb3 : Below w0.heap.size w0 w2 := HB2.out.grown hg3 hsz (fun k hk => (HO2.out.lt k hk).1)
          have HW := hid (show w2.ownsRow w0.heap.size 49 1 v' (L ++ ys).length ((L ++ ys).map (Value.int .i32)) from by simpa [HN2.out] using hown3)
          clear hown3 hg3
          go_wp2
          go_roundw
          case rel => exact ⟨2, L ++ ys, by omega, by go_num, fun h => absurd h (by omega), fun h => absurd h (by omega), fun _ => rfl, HW.out, hb3⟩
          case measure => simp [intOf]
        · obtain rfl := e2 rfl
          have HB2 := hid hb
          have HO2 := hid hown
          clear e0 e1 e2 hj hb hown
          go_wp2
          go_ret
          exact ⟨_, rfl, HO2.out, HB2.out⟩
end Go.Proofs.YbulkagqaDoor
