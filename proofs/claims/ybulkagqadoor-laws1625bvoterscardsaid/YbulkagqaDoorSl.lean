/-
  slices.Compact and slices.BinarySearch at book.Date (an int32), walked over this program: turned by tools/gen_slices.py from the kit's contracts at other element types. The plain laws are imported from the kit.
-/
import Derived.Test.YbulkagqaDoorSd0
import Derived.WalkKit
import Derived.Deep.LoopGhost
import Derived.Deep.Draws
import Derived.Lib.Walk
import Derived.Sort.WalkB12
import Derived.Lib.SliceRun
import Derived.Lib.SlicesCompact
import Derived.Lib.SlicesSearch
namespace Go.Proofs.YbulkagqaDoor
open Go.RowKit Go.Lib Go.Sort

theorem store_world_d {w wr : World} {n blk off : Nat} {dk : Array Int} {i : Nat} (hi : i < dk.size) (hwr : wr = putRow (Value.int .i32) (Sort.ahead w n) blk off dk) (x : Int) :
    (wr.setCell ⟨blk, off + i, none⟩ (Value.int .i32 x)).drew = putRow (Value.int .i32) (Sort.ahead w (n + 1)) blk off (dk.setIfInBounds i x) := by
  subst hwr
  rw [putRow_set (Value.int .i32) _ blk off dk i x hi, ← ahead_drew]
  rfl

set_option maxHeartbeats 4000000 in
set_option maxRecDepth 1000000 in
/-- slices.Compact: "Compact replaces consecutive runs of equal elements with a single copy. .. Compact zeroes the elements between the new length and the original length.": IT RETURNS THE SLICE CUT TO 'compactUpTo d d.size'; ITS CELLS HOLD THAT, THEN ZERO VALUES up to the old length; the library's two loops are walked. -/
theorem Ybad.slices_Compact_d (blk off cap : Nat) (d : Array Int) (w : World) (hH : Holds (Value.int .i32) w blk off d) (hsz : d.size ≤ 9223372036854775807) (hcap : d.size ≤ cap) :
    Calls Ybad.prog 25 #[.slice (some ⟨blk, off, none⟩) d.size cap] w fun e w' => e = .returned (.slice (some ⟨blk, off, none⟩) (compactUpTo d d.size).length cap) ∧ ∃ q, w' = putRow (Value.int .i32) (Sort.ahead w q) blk off (compactUpTo d d.size ++ List.replicate (d.size - (compactUpTo d d.size).length) 0).toArray := by
  have same : ∀ q, (∀ j, j < d.size → keeps d j = true) → (compactUpTo d d.size).length = d.size ∧ w.drewN q = putRow (Value.int .i32) (Sort.ahead w q) blk off (compactUpTo d d.size ++ List.replicate (d.size - (compactUpTo d d.size).length) 0).toArray := by
    intro q hall
    have e : compactUpTo d d.size = d.toList := by rw [compactUpTo_all d _ hall, range_map_get]
    rw [e]
    refine ⟨by simp, ?_⟩
    simp only [Array.length_toList, Nat.sub_self, List.replicate_zero, List.append_nil, Array.toArray_toList]
    exact (putRow_self (Value.int .i32) (Sort.ahead w q) blk off d (holds_ahead (Value.int .i32) w q blk off d hH)).symm
  have HS : Aside (∀ q, (∀ j, j < d.size → keeps d j = true) → (compactUpTo d d.size).length = d.size ∧ w.drewN q = putRow (Value.int .i32) (Sort.ahead w q) blk off (compactUpTo d d.size ++ List.replicate (d.size - (compactUpTo d d.size).length) 0).toArray) := same
  clear same
  by_cases h2 : d.size < 2
  · have HH : Aside (Holds (Value.int .i32) w blk off d) := hH
    clear hH
    go_enter Ybad.func25, Ybad.ntmps25
    go_wp2
    go_ret
    obtain ⟨e1, e2⟩ := HS.out 0 (fun j hj => keeps_lt_one d j (by omega))
    exact ⟨by rw [e1]; rfl, 0, e2⟩
  · go_enter Ybad.func25, Ybad.ntmps25
    go_wp2
    go_loopg [3] d.size (fun g s3 wr => ∃ k q : Nat, 1 ≤ k ∧ k ≤ d.size ∧ d.size - k ≤ g ∧ s3 = .int .i64 k ∧ wr = w.drewN q ∧ ∀ j, j < k → keeps d j = true)
    case atStart => exact ⟨1, 0, Nat.le_refl _, by omega, by omega, rfl, rfl, keeps_lt_one d⟩
    case round =>
      obtain ⟨k, q, hk1, hk, hg, rfl, rfl, hall⟩ := hrel
      by_cases hlt : k < d.size
      · obtain ⟨c1, f1⟩ := hH k hlt
        obtain ⟨c0, f0⟩ := hH (k - 1) (by omega)
        have A : Aside (∀ j, j < k → keeps d j = true) := hall
        have HH : Aside (Holds (Value.int .i32) w blk off d) := hH
        clear hall hH
        generalize hx : d[k]! = x at c1
        generalize hy : d[k - 1]! = y at c0
        have B : Aside (d[k]! = x ∧ d[k - 1]! = y) := ⟨hx, hy⟩
        clear hx hy
        by_cases hdup : x = y
        · subst hdup
          go_wp2_with fail
          go_region
          go_wp2
          clear c0 c1 f0 f1
          go_loopg [3, 5] d.size (fun g s3 s5 wr => ∃ (kk k2 q2 : Nat) (dk : Array Int), s3 = .int .i64 kk ∧ s5 = .int .i64 k2 ∧ 1 ≤ k2 ∧ k + k2 ≤ d.size ∧ d.size - (k + k2) ≤ g ∧ wr = putRow (Value.int .i32) (Sort.ahead w q2) blk off dk ∧ CompInv d (k + k2) kk dk)
          case atStart => exact ⟨k, 1, q + 1, d, rfl, rfl, Nat.le_refl _, by omega, by omega, (putRow_self (Value.int .i32) (Sort.ahead w (q + 1)) blk off d (holds_ahead (Value.int .i32) w (q + 1) blk off d HH.out)).symm, CompInv.start A.out (keeps_neg (by omega) (by rw [B.out.1, B.out.2]))⟩
          case round =>
            obtain ⟨kk, k2, q2, dk, rfl, rfl, h1, hle, hg2, hwr, hI⟩ := hrel
            have hkk := hI.lt
            have hds := hI.size
            have hHk : Holds (Value.int .i32) wr blk off dk := by rw [hwr]; exact holds_putRow (Value.int .i32) _ blk off d dk (holds_ahead (Value.int .i32) w q2 blk off d HH.out) hds
            have W2 : Aside (wr = putRow (Value.int .i32) (Sort.ahead w q2) blk off dk) := hwr
            have I2 : Aside (CompInv d (k + k2) kk dk) := hI
            clear hwr
            by_cases hlt2 : k + k2 < d.size
            · obtain ⟨cm, _⟩ := hHk (k + k2) (by omega)
              obtain ⟨cp, _⟩ := hHk (k + k2 - 1) (by omega)
              obtain ⟨ck, fk⟩ := hHk kk (by omega)
              rw [hI.high (k + k2) (by omega), show off + (k + k2) = off + k + k2 by omega] at cm
              rw [hI.high (k + k2 - 1) (by omega), show off + (k + k2 - 1) = off + k + (k2 - 1) by omega] at cp
              clear hHk hI
              generalize hu : d[k + k2]! = u at cm
              generalize hv : d[k + k2 - 1]! = v at cp
              generalize dk[kk]! = old at ck
              have C : Aside (d[k + k2]! = u ∧ d[k + k2 - 1]! = v) := ⟨hu, hv⟩
              clear hu hv
              by_cases huv : u = v
              · subst huv
                go_wp2_with fail
                go_region
                go_wp2
                go_roundg (d.size - (k + (k2 + 1)))
                case measure => omega
                case rel => exact ⟨kk, k2 + 1, q2 + 1, dk, rfl, by go_num, by omega, by omega, Nat.le_refl _, by rw [W2.out]; rfl, I2.out.skip (keeps_neg (by omega) (by rw [C.out.1, C.out.2]))⟩
              · go_wp2_with fail
                go_region
                go_wp2
                go_roundg (d.size - (k + (k2 + 1)))
                case measure => omega
                case rel => exact ⟨kk + 1, k2 + 1, q2 + 1, dk.setIfInBounds kk u, by go_num, by go_num, by omega, by omega, Nat.le_refl _, store_world_d (by omega) W2.out u, by have := I2.out.keep hlt2 (keeps_pos (by rw [C.out.1, C.out.2]; exact huv)); rwa [C.out.1] at this⟩
            · have hend : k + k2 = d.size := by omega
              have hcl : ∀ ty, (Builtin.clear_ #[39] ty #[.slice (some ⟨blk, off + kk, none⟩) (d.size - kk) (cap - kk)]).run Ybad.prog wr = .ok (.tuple #[]) (wr.setCells blk (off + kk) (List.replicate (d.size - kk) ((Value.int .i32) 0))) :=
                fun ty => Lib.run_clear_slice wr _ _ ty _ Ybad.underlying39 (fun w => Ybad.zeroValue49 w) rfl rfl blk (off + kk) _ _ (by omega) (fun j hj => by rw [show off + kk + j = off + (kk + j) by omega, (hHk (kk + j) (by omega)).1]; rfl) (fun j hj => by rw [show off + kk + j = off + (kk + j) by omega]; exact (hHk (kk + j) (by omega)).2)
              clear hHk hI
              go_wp2
              go_ret
              have hI := I2.out
              rw [hend] at hI
              refine ⟨by rw [hI.len]; rfl, q2, ?_⟩
              rw [hI.len, ← hI.done 0, ← putRow_setCells (Value.int .i32) _ blk off _ dk kk (by simp; omega), ← W2.out, List.map_replicate]
        · go_wp2_with fail
          go_region
          go_wp2
          go_roundg (d.size - (k + 1))
          case measure => omega
          case rel =>
            refine ⟨k + 1, q + 1, by omega, by omega, Nat.le_refl _, by go_num, rfl, fun j hj => ?_⟩
            by_cases e : j = k
            · subst e
              exact keeps_pos (by rw [B.out.1, B.out.2]; exact hdup)
            · exact A.out j (by omega)
      · have : k = d.size := by omega
        subst this
        have HH : Aside (Holds (Value.int .i32) w blk off d) := hH
        clear hH
        go_wp2
        go_ret
        obtain ⟨e1, e2⟩ := HS.out q hall
        exact ⟨by rw [e1]; rfl, q, e2⟩

theorem Ybad.cmp_Less_d2 (x y : Int) (w : World) : Calls Ybad.prog 59 #[.int .i32 x, .int .i32 y] w fun e w' => e = .returned (.bool (decide (x < y))) ∧ w' = w := Ybad.cmp_Less_d x y w

set_option maxHeartbeats 1000000 in
/-- slices.isNaN[int]: 'x != x': false. -/
theorem Ybad.slices_isNaN_d (x : Int) (w : World) : Calls Ybad.prog 62 #[.int .i32 x] w fun e w' => e = .returned (.bool false) ∧ w' = w := by
  go_enter Ybad.func62, Ybad.ntmps62
  go_wp2
  go_ret
  exact ⟨by simp, rfl⟩

set_option maxHeartbeats 4000000 in
set_option maxRecDepth 1000000 in
/-- slices.BinarySearch at []int: "BinarySearch searches for target in a sorted slice and returns the earliest position where target is found, or the position where target would appear in the sort order; it also returns a bool saying whether the target is really found in the slice. The slice must be sorted in increasing order.": OF A SORTED SLICE IT RETURNS how many elements are less than the target, and whether the target is among the elements; the world is as it was but for the count of draws. 'zs': what the cells behind the slice's address hold; 'zs.take n': its elements. (Of a slice that is not sorted: no contract here.) -/
theorem Ybad.slices_BinarySearch_d (b off n c : Nat) (zs : List Int) (x : Int) (w : World) (hz : n ≤ zs.length) (hbig : n < 4611686018427387904) (hc : ∀ j, j < zs.length → w.cell? ⟨b, off + j, none⟩ = some (.int .i32 (zs.getD j 0))) (hs : (zs.take n).Pairwise (· ≤ ·)) :
    Calls Ybad.prog 33 #[.slice (some ⟨b, off, none⟩) n c, .int .i32 x] w fun e w' => e = .returned (.tuple #[.int .i64 ((zs.take n).countP (· < x) : Nat), .bool ((zs.take n).contains x)]) ∧ ∃ q, w' = w.drewN q := by
  have S : Aside (∀ a b, a ≤ b → b < n → zs.getD a 0 ≤ zs.getD b 0) := Lib.sorted_at zs n hz hs
  clear hs
  go_enter Ybad.func33, Ybad.ntmps33
  go_wp2
  go_loopg [7, 8] n (fun g s7 s8 wr => ∃ lo hi q : Nat, s7 = .int .i64 lo ∧ s8 = .int .i64 hi ∧ lo ≤ hi ∧ hi ≤ n ∧ hi - lo ≤ g ∧ wr = w.drewN q ∧ (∀ t, t < lo → zs.getD t 0 < x) ∧ (∀ t, hi ≤ t → t < n → x ≤ zs.getD t 0))
  case atStart => exact ⟨0, n, 0, rfl, rfl, Nat.zero_le _, Nat.le_refl _, by omega, rfl, fun t ht => absurd ht (Nat.not_lt_zero _), fun t h1 h2 => by omega⟩
  case round =>
    obtain ⟨lo, hi, q, rfl, rfl, hlh, hin, hg, rfl, h1, h2⟩ := hrel
    have I : Aside ((∀ t, t < lo → zs.getD t 0 < x) ∧ (∀ t, hi ≤ t → t < n → x ≤ zs.getD t 0)) := ⟨h1, h2⟩
    clear h1 h2
    by_cases hlt : lo < hi
    · have cm : w.cell? ⟨b, off + (lo + hi) / 2, none⟩ = some (.int .i32 (zs.getD ((lo + hi) / 2) 0)) := hc _ (by omega)
      clear hc
      generalize hy : zs.getD ((lo + hi) / 2) 0 = y at cm
      have Y : Aside (zs.getD ((lo + hi) / 2) 0 = y) := hy
      clear hy
      by_cases hyx : y < x
      · go_wp2_with (first | (go_at_call 59; refine (Ybad.cmp_Less_d2 _ _ _).mono ?_; rintro e w' ⟨rfl, rfl⟩) | (go_at_call 62; refine (Ybad.slices_isNaN_d _ _).mono ?_; rintro e w' ⟨rfl, rfl⟩))
        go_roundg (hi - ((lo + hi) / 2 + 1))
        case measure => omega
        case rel =>
          refine ⟨(lo + hi) / 2 + 1, hi, _, by rw [show ((lo : Int) + (hi : Int)) / 2 + 1 = (((lo + hi) / 2 + 1 : Nat) : Int) by omega], rfl, by omega, hin, Nat.le_refl _, rfl, fun t ht => ?_, I.out.2⟩
          have := S.out t ((lo + hi) / 2) (by omega) (by omega)
          rw [Y.out] at this
          omega
      · go_wp2_with (first | (go_at_call 59; refine (Ybad.cmp_Less_d2 _ _ _).mono ?_; rintro e w' ⟨rfl, rfl⟩) | (go_at_call 62; refine (Ybad.slices_isNaN_d _ _).mono ?_; rintro e w' ⟨rfl, rfl⟩))
        go_roundg ((lo + hi) / 2 - lo)
        case measure => omega
        case rel =>
          refine ⟨lo, (lo + hi) / 2, _, rfl, by rw [show ((lo : Int) + (hi : Int)) / 2 = (((lo + hi) / 2 : Nat) : Int) by omega], by omega, by omega, Nat.le_refl _, rfl, I.out.1, fun t ht htn => ?_⟩
          have := S.out ((lo + hi) / 2) t ht htn
          rw [Y.out] at this
          omega
    · have : hi = lo := by omega
      subst this
      obtain ⟨e1, e2⟩ := Lib.search_end zs n hi x hz hin I.out.1 I.out.2 S.out
      have E : Aside ((zs.take n).countP (· < x) = hi ∧ (zs.take n).contains x = decide (hi < n ∧ zs.getD hi 0 = x)) := ⟨e1, e2⟩
      clear e1 e2
      by_cases hn : hi < n
      · have cl : w.cell? ⟨b, off + hi, none⟩ = some (.int .i32 (zs.getD hi 0)) := hc _ (by omega)
        clear hc
        generalize hy : zs.getD hi 0 = y at cl
        have Y : Aside (zs.getD hi 0 = y) := hy
        clear hy
        by_cases hyx : y = x
        · go_wp2_with (first | (go_at_call 59; refine (Ybad.cmp_Less_d2 _ _ _).mono ?_; rintro e w' ⟨rfl, rfl⟩) | (go_at_call 62; refine (Ybad.slices_isNaN_d _ _).mono ?_; rintro e w' ⟨rfl, rfl⟩))
          go_ret2
          refine ⟨?_, _, rfl⟩
          rw [E.out.1, E.out.2, Y.out, decide_eq_true (show hi < n ∧ y = x from ⟨hn, hyx⟩)]
          first | rfl | simp [*]
        · go_wp2_with (first | (go_at_call 59; refine (Ybad.cmp_Less_d2 _ _ _).mono ?_; rintro e w' ⟨rfl, rfl⟩) | (go_at_call 62; refine (Ybad.slices_isNaN_d _ _).mono ?_; rintro e w' ⟨rfl, rfl⟩))
          go_ret2
          refine ⟨?_, _, rfl⟩
          rw [E.out.1, E.out.2, Y.out, decide_eq_false (show ¬ (hi < n ∧ y = x) from fun h => hyx h.2)]
          first | rfl | simp [*]
      · clear hc
        go_wp2_with (first | (go_at_call 59; refine (Ybad.cmp_Less_d2 _ _ _).mono ?_; rintro e w' ⟨rfl, rfl⟩) | (go_at_call 62; refine (Ybad.slices_isNaN_d _ _).mono ?_; rintro e w' ⟨rfl, rfl⟩))
        go_ret2
        refine ⟨?_, _, rfl⟩
        rw [E.out.1, E.out.2, decide_eq_false (show ¬ (hi < n ∧ zs.getD hi 0 = x) from fun h => hn h.1)]
        first | rfl | simp [*]

end Go.Proofs.YbulkagqaDoor
