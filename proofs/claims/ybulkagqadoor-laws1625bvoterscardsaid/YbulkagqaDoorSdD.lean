/-
  The walks of slices.Sort at the element type of this program (book.Date), turned by tools/gen_sort.py from the kit's walks at int over its own toy (Derived/Sort/). The plain laws of the sort are imported from there.
-/
import Derived.Test.YbulkagqaDoorSd0
import Derived.Sort.Walk11
namespace Go.Proofs.YbulkagqaDoor
open Go.RowKit Go.Sort
theorem holds_aside_d {w : World} {blk off sb so n t : Nat} {d : Array Int} (h : Holds (Value.int .i32) w blk off d) (hne : sb ≠ blk) : Holds (Value.int .i32) (putRow (Value.int .i64) (Sort.ahead w n) sb so (one t)) blk off d := fun j hj =>
  ⟨by rw [cell?_putRow_other _ _ _ _ _ _ (Or.inl (Ne.symm hne))]; exact (holds_ahead _ _ _ _ _ _ h j hj).1, by rw [frozen?_putRow]; exact (holds_ahead _ _ _ _ _ _ h j hj).2⟩

set_option maxHeartbeats 1000000 in
/-- WALK 8. -/
theorem Ybad.order2_d (d : Array Int) (len : Nat) (hlen : d.size = len) (blk off cap a b sb so s : Nat) (w : World) (hH : Holds (Value.int .i32) w blk off d) (ha : a < d.size) (hb : b < d.size)
    (hS : Holds (Value.int .i64) w sb so (one s)) (hs : s < 2 ^ 62) :
    Calls Ybad.prog 78 #[.slice (some ⟨blk, off, none⟩) len cap, .int .i64 a, .int .i64 b, .pointer (some ⟨sb, so, none⟩)] w fun e w' =>
      e = .returned (.tuple #[.int .i64 (order2 ltInt d a b s).1, .int .i64 (order2 ltInt d a b s).2.1]) ∧ ∃ n, w' = putRow (Value.int .i64) (Sort.ahead w n) sb so (one (order2 ltInt d a b s).2.2) := by
  subst hlen
  replace hs : s < 4611686018427387904 := by omega
  have ca := (hH a ha).1
  have cb := (hH b hb).1
  obtain ⟨cs, fs⟩ := one_cell hS
  have ea : d[a]! = d[a] := getElem!_pos d a ha
  have eb : d[b]! = d[b] := getElem!_pos d b hb
  go_enter Ybad.func78, Ybad.ntmps78
  go_wp2
  go_region_with (go_at_call 59; refine (Ybad.cmp_Less_d _ _ _).mono ?_; rintro e w' ⟨rfl, rfl⟩)
  all_goals (try go_wp2)
  all_goals first
    | (have hlt : ltInt d[b] d[a] = true := by assumption
       have e2 : order2 ltInt d a b s = (b, a, s + 1) := by simp [order2, ea, eb, hlt]
       go_ret2
       rw [e2]
       refine ⟨rfl, 1, ?_⟩
       rw [putRow_ahead, ← one_set hS (s + 1)]
       simp [drew_eq_ahead])
    | (have hlt : ltInt d[b] d[a] = false := by assumption
       have e2 : order2 ltInt d a b s = (a, b, s) := by simp [order2, ea, eb, hlt]
       go_ret2
       rw [e2]
       refine ⟨rfl, 1, ?_⟩
       rw [putRow_ahead, putRow_self _ _ _ _ _ hS]
       rfl)

set_option maxHeartbeats 1000000 in
set_option maxRecDepth 100000 in
/-- WALK 9. -/
theorem Ybad.median_d (d : Array Int) (len : Nat) (hlen : d.size = len) (blk off cap a b c sb so s : Nat) (w : World) (hH : Holds (Value.int .i32) w blk off d) (ha : a < d.size) (hb : b < d.size) (hc : c < d.size) (hne : sb ≠ blk)
    (hS : Holds (Value.int .i64) w sb so (one s)) (hs : s + 3 < 2 ^ 62) :
    Calls Ybad.prog 74 #[.slice (some ⟨blk, off, none⟩) len cap, .int .i64 a, .int .i64 b, .int .i64 c, .pointer (some ⟨sb, so, none⟩)] w fun e w' =>
      e = .returned (.int .i64 (median ltInt d a b c s).1) ∧ ∃ n, w' = putRow (Value.int .i64) (Sort.ahead w n) sb so (one (median ltInt d a b c s).2) := by
  subst hlen
  have l1 := order2_lt d s ha hb
  have s1 := order2_swaps d a b s
  have l2 := order2_lt d (order2 ltInt d a b s).2.2 l1.2 hc
  have s2 := order2_swaps d (order2 ltInt d a b s).2.1 c (order2 ltInt d a b s).2.2
  go_enter Ybad.func74, Ybad.ntmps74
  -- WHICH OF THE THREE CALLS IT IS, IS TOLD BY AN ARGUMENT THAT THE OTHERS LACK ('go_at_call_of'): a contract that does not fit is not harmless: 'refine' lays both calls open
  go_wp2_with (go_at_call_of 78 (Value.int .i64 (b : Int)); refine (Ybad.order2_d d _ rfl blk off cap a b sb so s w hH ha hb hS (by omega)).mono ?_; rintro e w' ⟨rfl, n1, rfl⟩)
  go_wp2_with (go_at_call_of 78 (Value.int .i64 (c : Int)); refine (Ybad.order2_d d _ rfl blk off cap (order2 ltInt d a b s).2.1 c sb so (order2 ltInt d a b s).2.2 _ (holds_aside_d hH hne) l1.2 hc (holds_one hS) (by omega)).mono ?_; rintro e w' ⟨rfl, n2, rfl⟩)
  go_wp2_with (go_at_call_of 78 (Value.int .i64 ((order2 ltInt d a b s).1 : Int)); refine (Ybad.order2_d d _ rfl blk off cap (order2 ltInt d a b s).1 (order2 ltInt d (order2 ltInt d a b s).2.1 c (order2 ltInt d a b s).2.2).1 sb so (order2 ltInt d (order2 ltInt d a b s).2.1 c (order2 ltInt d a b s).2.2).2.2 _
    (holds_aside_d (holds_aside_d hH hne) hne) l1.1 l2.1 (holds_one (holds_one hS)) (by omega)).mono ?_; rintro e w' ⟨rfl, n3, rfl⟩)
  go_ret
  refine ⟨rfl, n1 + (n2 + n3), ?_⟩
  rw [one_one, one_one]
  rfl

set_option maxHeartbeats 1000000 in
set_option maxRecDepth 100000 in
/-- WALK 10. -/
theorem Ybad.medianAdjacent_d (d : Array Int) (len : Nat) (hlen : d.size = len) (blk off cap a sb so s : Nat) (w : World) (hH : Holds (Value.int .i32) w blk off d) (ha0 : 1 ≤ a) (ha : a + 1 < d.size) (hsz : d.size < 2 ^ 62) (hne : sb ≠ blk)
    (hS : Holds (Value.int .i64) w sb so (one s)) (hs : s + 3 < 2 ^ 62) :
    Calls Ybad.prog 73 #[.slice (some ⟨blk, off, none⟩) len cap, .int .i64 a, .pointer (some ⟨sb, so, none⟩)] w fun e w' =>
      e = .returned (.int .i64 (medianAdjacent ltInt d a s).1) ∧ ∃ n, w' = putRow (Value.int .i64) (Sort.ahead w n) sb so (one (medianAdjacent ltInt d a s).2) := by
  subst hlen
  replace hsz : d.size < 4611686018427387904 := by omega
  go_enter Ybad.func73, Ybad.ntmps73
  go_wp2_with (go_at_call 74; rw [show ((a : Int) - 1) = ((a - 1 : Nat) : Int) by omega, show ((a : Int) + 1) = ((a + 1 : Nat) : Int) by omega]; refine (Ybad.median_d d _ rfl blk off cap (a - 1) a (a + 1) sb so s w hH (by omega) (by omega) ha hne hS hs).mono ?_; rintro e w' ⟨rfl, n1, rfl⟩)
  go_ret
  exact ⟨rfl, n1, rfl⟩

/-- THE COUNTER's WORLD BEHIND ONE WORD, at int: 'Wc N S': N draws have been made, S swaps counted. The two callees' contracts in one form: from 'Wc N s' to 'Wc N' s''. (the authors' 'holds_aside', 'holds_one', 'one_one', 'counter_grow' are used HERE, once, and not inside the walk.) -/
theorem pivot_world_d (blk off cap : Nat) (d : Array Int) (w : World) (hH : Holds (Value.int .i32) w blk off d) (hblk : blk < w.heap.size) (hsz : d.size < 4611686018427387904) :
    ∃ Wc : Nat → Nat → World,
      w.alloc (.cells #[.int .i64 0] 3) = Wc 0 0 ∧
      (∀ N S : Nat, (Wc N S).cell? ⟨w.heap.size, 0, none⟩ = some (.int .i64 (S : Int))) ∧
      (∀ N S : Nat, ∃ os, Wc N S = grow (Sort.ahead w N) os) ∧
      (∀ x s N : Nat, 1 ≤ x → x + 1 < d.size → s + 3 < 4611686018427387904 → Calls Ybad.prog 73 #[.slice (some ⟨blk, off, none⟩) d.size cap, .int .i64 (x : Int), .pointer (some ⟨w.heap.size, 0, none⟩)] (Wc N s) fun e w' =>
        e = .returned (.int .i64 ((medianAdjacent ltInt d x s).1 : Int)) ∧ ∃ N', w' = Wc N' (medianAdjacent ltInt d x s).2) ∧
      (∀ x y z s N : Nat, x < d.size → y < d.size → z < d.size → s + 3 < 4611686018427387904 → Calls Ybad.prog 74 #[.slice (some ⟨blk, off, none⟩) d.size cap, .int .i64 (x : Int), .int .i64 (y : Int), .int .i64 (z : Int), .pointer (some ⟨w.heap.size, 0, none⟩)] (Wc N s) fun e w' =>
        e = .returned (.int .i64 ((median ltInt d x y z s).1 : Int)) ∧ ∃ N', w' = Wc N' (median ltInt d x y z s).2) := by
  have hne : w.heap.size ≠ blk := by omega
  have hH0 : Holds (Value.int .i32) (w.alloc (.cells #[.int .i64 0] 3)) blk off d := by rw [alloc_eq_grow]; exact holds_grow _ _ _ _ _ _ hblk hH
  have hS0 : Holds (Value.int .i64) (w.alloc (.cells #[.int .i64 0] 3)) w.heap.size 0 (one 0) := fun j hj => by
    obtain rfl : j = 0 := by simpa using hj
    simp
  refine ⟨fun N S => putRow (Value.int .i64) (Sort.ahead (w.alloc (.cells #[.int .i64 0] 3)) N) w.heap.size 0 (one S), (putRow_self _ _ _ _ _ hS0).symm, fun N S => (one_cell (holds_one (n := N) (t := S) hS0)).1, fun N S => counter_grow w N S, ?_, ?_⟩
  · intro x s N h1 h2 hs
    refine (Ybad.medianAdjacent_d d _ rfl blk off cap x w.heap.size 0 s _ (holds_aside_d hH0 hne) h1 h2 (by omega) hne (holds_one hS0) (by omega)).mono ?_
    rintro e w' ⟨he, n, hw⟩
    exact ⟨he, N + n, by rw [hw, one_one]⟩
  · intro x y z s N h1 h2 h3 hs
    refine (Ybad.median_d d _ rfl blk off cap x y z w.heap.size 0 s _ (holds_aside_d hH0 hne) h1 h2 h3 hne (holds_one hS0) (by omega)).mono ?_
    rintro e w' ⟨he, n, hw⟩
    exact ⟨he, N + n, by rw [hw, one_one]⟩

set_option maxRecDepth 100000 in
/-- WALK 11 OF THE PLAN, at int: THE LIBRARY's OWN TEXT COMPUTES 'Sort.choosePivot'; the array is only read; 'swaps' is a local whose address is taken: one new block behind the heap. In the form in which the authors' walk 13 takes it ('Callees13d.piv'). -/
theorem Ybad.choosePivot_d (blk off cap a b : Nat) (d : Array Int) (w : World) (hH : Holds (Value.int .i32) w blk off d) (hblk : blk < w.heap.size) (hab : a < b) (hb : b ≤ d.size) (hsz : d.size < 4611686018427387904) :
    Calls Ybad.prog 56 #[.slice (some ⟨blk, off, none⟩) d.size cap, .int .i64 a, .int .i64 b] w fun e w' =>
      e = .returned (.tuple #[.int .i64 (choosePivot ltInt d a b).1, .int .i64 (hintCode (choosePivot ltInt d a b).2)]) ∧ ∃ n os, w' = grow (Sort.ahead w n) os := by
  obtain ⟨Wc, hW0, cS, hG, MA, MD⟩ := pivot_world_d blk off cap d w hH hblk hsz
  clear hH
  rw [choosePivot_eq]
  -- the three places under names of their own
  obtain ⟨I, hI⟩ : ∃ I : Nat, I = a + (b - a) / 4 * 1 := ⟨_, rfl⟩
  obtain ⟨J, hJ⟩ : ∃ J : Nat, J = a + (b - a) / 4 * 2 := ⟨_, rfl⟩
  obtain ⟨K, hK⟩ : ∃ K : Nat, K = a + (b - a) / 4 * 3 := ⟨_, rfl⟩
  have eI : ((a : Int) + ((b : Int) - (a : Int)) / 4) = (I : Int) := by omega
  have eJ : ((a : Int) + ((b : Int) - (a : Int)) / 4 * 2) = (J : Int) := by omega
  have eK : ((a : Int) + ((b : Int) - (a : Int)) / 4 * 3) = (K : Int) := by omega
  by_cases h8 : b - a ≥ 8
  · by_cases h50 : b - a ≥ 50
    · -- THE NINTHER
      obtain ⟨i1, s1, h1⟩ : ∃ i1 s1, medianAdjacent ltInt d I 0 = (i1, s1) := ⟨_, _, rfl⟩
      obtain ⟨j1, s2, h2⟩ : ∃ j1 s2, medianAdjacent ltInt d J s1 = (j1, s2) := ⟨_, _, rfl⟩
      obtain ⟨k1, s3, h3⟩ : ∃ k1 s3, medianAdjacent ltInt d K s2 = (k1, s3) := ⟨_, _, rfl⟩
      obtain ⟨p, s, h4⟩ : ∃ p s, median ltInt d i1 j1 k1 s3 = (p, s) := ⟨_, _, rfl⟩
      have hraw : rawPivot ltInt d a b = (p, s) := by simp only [rawPivot, if_pos h8, if_pos h50, ← hI, ← hJ, ← hK, h1, h2, h3, h4]
      have m1 := medianAdjacent_mem ltInt d I 0; rw [h1] at m1
      have m2 := medianAdjacent_mem ltInt d J s1; rw [h2] at m2
      have m3 := medianAdjacent_mem ltInt d K s2; rw [h3] at m3
      have n1 := medianAdjacent_count ltInt d I 0; rw [h1] at n1
      have n2 := medianAdjacent_count ltInt d J s1; rw [h2] at n2
      have n3 := medianAdjacent_count ltInt d K s2; rw [h3] at n3
      simp only [] at m1 m2 m3 n1 n2 n3
      have c1 : Calls Ybad.prog 73 #[.slice (some ⟨blk, off, none⟩) d.size cap, .int .i64 (I : Int), .pointer (some ⟨w.heap.size, 0, none⟩)] (Wc 0 0) fun e w' => e = .returned (.int .i64 (i1 : Int)) ∧ ∃ N', w' = Wc N' s1 := by
        have h := MA I 0 0 (by omega) (by omega) (by omega); rw [h1] at h; exact h
      have c2 : ∀ N, Calls Ybad.prog 73 #[.slice (some ⟨blk, off, none⟩) d.size cap, .int .i64 (J : Int), .pointer (some ⟨w.heap.size, 0, none⟩)] (Wc N s1) fun e w' => e = .returned (.int .i64 (j1 : Int)) ∧ ∃ N', w' = Wc N' s2 := fun N => by
        have h := MA J s1 N (by omega) (by omega) (by omega); rw [h2] at h; exact h
      have c3 : ∀ N, Calls Ybad.prog 73 #[.slice (some ⟨blk, off, none⟩) d.size cap, .int .i64 (K : Int), .pointer (some ⟨w.heap.size, 0, none⟩)] (Wc N s2) fun e w' => e = .returned (.int .i64 (k1 : Int)) ∧ ∃ N', w' = Wc N' s3 := fun N => by
        have h := MA K s2 N (by omega) (by omega) (by omega); rw [h3] at h; exact h
      have c4 : ∀ N, Calls Ybad.prog 74 #[.slice (some ⟨blk, off, none⟩) d.size cap, .int .i64 (i1 : Int), .int .i64 (j1 : Int), .int .i64 (k1 : Int), .pointer (some ⟨w.heap.size, 0, none⟩)] (Wc N s3) fun e w' => e = .returned (.int .i64 (p : Int)) ∧ ∃ N', w' = Wc N' s := fun N => by
        have h := MD i1 j1 k1 s3 N (by omega) (by omega) (by omega) (by omega); rw [h4] at h; exact h
      -- the pivot, the count, the hint's number under names of their own
      rw [hraw]
      obtain ⟨Hc, hHc⟩ : ∃ Hc : Int, Hc = hintCode (hintOf s) := ⟨_, rfl⟩
      have hh0 : s = 0 → Hc = 1 := fun h => by rw [hHc, h]; rfl
      have hh12 : s = 12 → Hc = 2 := fun h => by rw [hHc, h]; rfl
      have hhx : s ≠ 0 → s ≠ 12 → Hc = 0 := fun h1 h2 => by rw [hHc]; unfold hintOf; rw [if_neg h1, if_neg h2]; rfl
      show Calls Ybad.prog 56 _ w fun e w' => e = .returned (.tuple #[.int .i64 (p : Int), .int .i64 (hintCode (hintOf s))]) ∧ ∃ n os, w' = grow (Sort.ahead w n) os
      rw [← hHc]
      clear hHc hraw
      clear h1 h2 h3 h4 MA MD hI hJ hK m1 m2 m3
      go_enter Ybad.func56, Ybad.ntmps56
      go_wp2_with (first
        | (go_at_call_has 73 (Value.int .i64 (I : Int)); refine c1.mono ?_; rintro e w' ⟨rfl, N1, rfl⟩)
        | (go_at_call_has 73 (Value.int .i64 (J : Int)); refine (c2 _).mono ?_; rintro e w' ⟨rfl, N2, rfl⟩)
        | (go_at_call_has 73 (Value.int .i64 (K : Int)); refine (c3 _).mono ?_; rintro e w' ⟨rfl, N3, rfl⟩)
        | (go_at_call 74; refine (c4 _).mono ?_; rintro e w' ⟨rfl, N4, rfl⟩))
      -- 'switch swaps'
      all_goals
        go_ret2
        refine ⟨?_, _, hG _ _⟩
        first
          | (have e0 : (s : Int) = 0 := of_beq_int (by assumption)
             rw [hh0 (by omega)]; rfl)
          | (have e1 : (s : Int) = 12 := of_beq_int (by assumption)
             rw [hh12 (by omega)]; rfl)
          | (have e0 : (s : Int) ≠ 0 := of_bne_int (by assumption)
             have e1 : (s : Int) ≠ 12 := of_bne_int (by assumption)
             rw [hhx (by omega) (by omega)]; rfl)
          | (rw [hh0 (by omega)]; rfl)
    · -- THE MEDIAN OF THREE
      obtain ⟨p, s, h4⟩ : ∃ p s, median ltInt d I J K 0 = (p, s) := ⟨_, _, rfl⟩
      have hraw : rawPivot ltInt d a b = (p, s) := by simp only [rawPivot, if_pos h8, if_neg h50, ← hI, ← hJ, ← hK, h4]
      have c4 : Calls Ybad.prog 74 #[.slice (some ⟨blk, off, none⟩) d.size cap, .int .i64 (I : Int), .int .i64 (J : Int), .int .i64 (K : Int), .pointer (some ⟨w.heap.size, 0, none⟩)] (Wc 0 0) fun e w' => e = .returned (.int .i64 (p : Int)) ∧ ∃ N', w' = Wc N' s := by
        have h := MD I J K 0 0 (by omega) (by omega) (by omega) (by omega); rw [h4] at h; exact h
      -- the pivot, the count, the hint's number under names of their own
      rw [hraw]
      obtain ⟨Hc, hHc⟩ : ∃ Hc : Int, Hc = hintCode (hintOf s) := ⟨_, rfl⟩
      have hh0 : s = 0 → Hc = 1 := fun h => by rw [hHc, h]; rfl
      have hh12 : s = 12 → Hc = 2 := fun h => by rw [hHc, h]; rfl
      have hhx : s ≠ 0 → s ≠ 12 → Hc = 0 := fun h1 h2 => by rw [hHc]; unfold hintOf; rw [if_neg h1, if_neg h2]; rfl
      show Calls Ybad.prog 56 _ w fun e w' => e = .returned (.tuple #[.int .i64 (p : Int), .int .i64 (hintCode (hintOf s))]) ∧ ∃ n os, w' = grow (Sort.ahead w n) os
      rw [← hHc]
      clear hHc hraw
      clear h4 MA MD hI hJ hK
      go_enter Ybad.func56, Ybad.ntmps56
      go_wp2_with (first | (go_at_call 74; refine c4.mono ?_; rintro e w' ⟨rfl, N4, rfl⟩))
      -- 'switch swaps'
      all_goals
        go_ret2
        refine ⟨?_, _, hG _ _⟩
        first
          | (have e0 : (s : Int) = 0 := of_beq_int (by assumption)
             rw [hh0 (by omega)]; rfl)
          | (have e1 : (s : Int) = 12 := of_beq_int (by assumption)
             rw [hh12 (by omega)]; rfl)
          | (have e0 : (s : Int) ≠ 0 := of_bne_int (by assumption)
             have e1 : (s : Int) ≠ 12 := of_bne_int (by assumption)
             rw [hhx (by omega) (by omega)]; rfl)
          | (rw [hh0 (by omega)]; rfl)
  · -- FEWER THAN EIGHT: the middle; nothing is counted
    obtain ⟨p, hp⟩ : ∃ p : Nat, p = J := ⟨_, rfl⟩
    obtain ⟨s, hs⟩ : ∃ s : Nat, s = 0 := ⟨_, rfl⟩
    have hraw : rawPivot ltInt d a b = (p, s) := by simp only [rawPivot, if_neg h8, ← hJ, hp, hs]
    -- the pivot, the count, the hint's number under names of their own
    rw [hraw]
    obtain ⟨Hc, hHc⟩ : ∃ Hc : Int, Hc = hintCode (hintOf s) := ⟨_, rfl⟩
    have hh0 : s = 0 → Hc = 1 := fun h => by rw [hHc, h]; rfl
    have hh12 : s = 12 → Hc = 2 := fun h => by rw [hHc, h]; rfl
    have hhx : s ≠ 0 → s ≠ 12 → Hc = 0 := fun h1 h2 => by rw [hHc]; unfold hintOf; rw [if_neg h1, if_neg h2]; rfl
    show Calls Ybad.prog 56 _ w fun e w' => e = .returned (.tuple #[.int .i64 (p : Int), .int .i64 (hintCode (hintOf s))]) ∧ ∃ n os, w' = grow (Sort.ahead w n) os
    rw [← hHc]
    clear hHc hraw
    subst hp
    clear MA MD hI hJ hK
    have hW0' : w.alloc (.cells #[.int .i64 0] 3) = Wc 0 s := by rw [hs]; exact hW0
    clear hW0
    go_enter Ybad.func56, Ybad.ntmps56
    go_wp2
    -- 'switch swaps'
    all_goals
      go_ret2
      refine ⟨?_, _, hG _ _⟩
      first
        | (have e0 : (s : Int) = 0 := of_beq_int (by assumption)
           rw [hh0 (by omega)]; rfl)
        | (have e1 : (s : Int) = 12 := of_beq_int (by assumption)
           rw [hh12 (by omega)]; rfl)
        | (have e0 : (s : Int) ≠ 0 := of_bne_int (by assumption)
           have e1 : (s : Int) ≠ 12 := of_bne_int (by assumption)
           rw [hhx (by omega) (by omega)]; rfl)
        | (rw [hh0 (by omega)]; rfl)
end Go.Proofs.YbulkagqaDoor
