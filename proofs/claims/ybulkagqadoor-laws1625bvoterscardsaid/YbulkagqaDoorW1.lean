import Derived.Test.YbulkagqaDoorSl
namespace Go.Proofs.YbulkagqaDoor
open Go.RowKit Go.Lib Go.Sort

/-- Of a list in strictly increasing order: how many are at most x. -/
theorem count_le (fs : List Int) (x : Int) (hs : fs.Pairwise (· < ·)) : fs.countP (· < x) + (if fs.contains x then 1 else 0) = fs.countP (· ≤ x) := by
  induction fs with
  | nil => simp
  | cons a r ih =>
    obtain ⟨ha, hr⟩ := List.pairwise_cons.1 hs
    have h := ih hr
    simp only [List.countP_cons, List.contains_cons, decide_eq_true_eq]
    by_cases e : x = a
    · subst e
      have hn : r.contains x = false := by
        simp only [List.contains_eq_mem, decide_eq_false_iff_not]
        intro hm; exact absurd (ha _ hm) (by omega)
      rw [hn] at h
      simp at h ⊢
      omega
    · have hx : (x == a) = false := by simpa using e
      rw [hx, Bool.false_or]
      by_cases l : a < x
      · rw [if_pos l, if_pos (show a ≤ x by omega)]; omega
      · rw [if_neg l, if_neg (show ¬ a ≤ x by omega)]; omega

theorem pairwise_le : ∀ l : List Int, l.Pairwise (· < ·) → l.Pairwise (· ≤ ·)
  | [], _ => List.Pairwise.nil
  | a :: r, h => List.pairwise_cons.2 ⟨fun x hx => by have := (List.pairwise_cons.1 h).1 x hx; omega, pairwise_le r (List.pairwise_cons.1 h).2⟩

set_option maxHeartbeats 1000000 in
theorem onOrBefore_any (b off c : Nat) (fs : List Int) (x : Int) (w : World) (hbig : fs.length < 4611686018427387904) (hc : ∀ j, j < fs.length → w.cell? ⟨b, off + j, none⟩ = some (.int .i32 (fs.getD j 0))) (hs : fs.Pairwise (· < ·)) :
    Calls Ybad.prog 26 #[.slice (some ⟨b, off, none⟩) fs.length c, .int .i32 x] w fun e w' => e = .returned (.int .i64 (fs.countP (· ≤ x) : Nat)) ∧ ∃ q, w' = w.drewN q := by
  have hb := Ybad.slices_BinarySearch_d b off fs.length c fs x w (Nat.le_refl _) hbig hc (by rw [List.take_length]; exact pairwise_le fs hs)
  rw [List.take_length] at hb
  have hcl := count_le fs x hs
  have hle := List.countP_le_length (p := fun y => decide (y < x)) (l := fs)
  generalize List.countP (fun y => decide (y < x)) fs = n at hb hcl hle
  generalize List.countP (fun y => decide (y ≤ x)) fs = m at hcl ⊢
  generalize fs.contains x = bb at hb hcl
  clear hc hs
  cases bb
  · have HC : Hid (n = m) := (by simpa using hcl : n = m)
    clear hcl
    go_enter Ybad.func26, Ybad.ntmps26
    go_wp2_with (go_at_call 33; refine hb.mono ?_; rintro e w' ⟨rfl, q, rfl⟩)
    go_ret
    exact ⟨by rw [HC.out]; rfl, q, rfl⟩
  · have HC : Hid (n + 1 = m) := (by simpa using hcl : n + 1 = m)
    clear hcl
    go_enter Ybad.func26, Ybad.ntmps26
    go_wp2_with (go_at_call 33; refine hb.mono ?_; rintro e w' ⟨rfl, q, rfl⟩)
    go_ret
    exact ⟨by rw [← HC.out]; rfl, q, rfl⟩

set_option maxHeartbeats 1000000 in
theorem spanOf_any (b off c : Nat) (fs : List Int) (x : Int) (w : World) (hbig : fs.length < 4611686018427387904) (hc : ∀ j, j < fs.length → w.cell? ⟨b, off + j, none⟩ = some (.int .i32 (fs.getD j 0))) (hs : fs.Pairwise (· < ·)) :
    Calls Ybad.prog 16 #[.slice (some ⟨b, off, none⟩) fs.length c, .int .i32 x] w fun e w' => e = .returned (.int .i64 ((fs.countP (· ≤ x) : Nat) - 1 : Int)) ∧ ∃ q, w' = w.drewN q := by
  have hb := onOrBefore_any b off c fs x w hbig hc hs
  have hle := List.countP_le_length (p := fun y => decide (y ≤ x)) (l := fs)
  generalize List.countP (fun y => decide (y ≤ x)) fs = m at hb hle ⊢
  clear hc hs
  go_enter Ybad.func16, Ybad.ntmps16
  go_wp2_with (go_at_call 26; refine hb.mono ?_; rintro e w' ⟨rfl, q, rfl⟩)
  go_ret
  exact ⟨rfl, q, rfl⟩

set_option maxHeartbeats 2000000 in
set_option maxRecDepth 100000 in
/-- slices.Equal at []int of two slices that read as one list: true. -/
theorem equal_same (a1 a2 : Option Addr) (c1 c2 : Nat) (xs : List Int) (w : World) (hbig : xs.length < 4611686018427387904)
    (hc1 : ∀ j, j < xs.length → ∃ b o, a1 = some ⟨b, o, none⟩ ∧ w.cell? ⟨b, o + j, none⟩ = some (.int .i64 (xs.getD j 0)))
    (hc2 : ∀ j, j < xs.length → ∃ b o, a2 = some ⟨b, o, none⟩ ∧ w.cell? ⟨b, o + j, none⟩ = some (.int .i64 (xs.getD j 0))) :
    Calls Ybad.prog 10 #[.slice a1 xs.length c1, .slice a2 xs.length c2] w fun e w' => e = .returned (.bool true) ∧ ∃ q, w' = w.drewN q := by
  go_enter Ybad.func10, Ybad.ntmps10
  go_wp2
  go_loopg [13] xs.length (fun g s13 wr => ∃ k q : Nat, k ≤ xs.length ∧ xs.length - k ≤ g ∧ s13 = .int .i64 k ∧ wr = w.drewN q)
  case atStart => exact ⟨0, 0, Nat.zero_le _, by omega, rfl, rfl⟩
  case round =>
    obtain ⟨k, q, hk, hg, rfl, rfl⟩ := hrel
    by_cases hlt : k < xs.length
    · obtain ⟨b1, o1, rfl, g1⟩ := hc1 k hlt
      obtain ⟨b2, o2, rfl, g2⟩ := hc2 k hlt
      clear hc1 hc2
      generalize xs.getD k 0 = x at g1 g2
      generalize xs.length = n at *
      go_wp2_with fail
      go_region
      go_wp2
      go_roundg (n - (k + 1))
      case measure => omega
      case rel => exact ⟨k + 1, q + 1, by omega, by omega, by go_num, rfl⟩
    · clear hc1 hc2
      go_wp2
      go_ret
      exact ⟨rfl, q, rfl⟩

end Go.Proofs.YbulkagqaDoor
