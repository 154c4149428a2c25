import Derived.Test.YbulkagtgC5
namespace Go.Proofs.Ybulkagtg
open Go.RowKit Go.Lib
set_option linter.unusedVariables false

set_option maxHeartbeats 4000000 in
theorem next_f_f (bm bp bl sl bo so B Q pb ps lot : Nat) (v t t' : Int) (w : World)
    (hm : MktAt w bm bp bl sl bo so pb ps lot none none) (hp : PoolAt w bp B Q t) :
    Calls Yba.prog 7 #[.pointer (some ⟨bm, 0, none⟩)] w fun e w' => e = .returned (.pointer (none)) ∧ PoolAt w' bp B Q t ∧ Below bp w w' ∧ (∀ k, k < w.heap.size → k ≠ bp → w'.heap[k]? = w.heap[k]?) := by
  have HM := hid hm
  have HP := hid hp
  have HB0 := hid (Below.refl w.heap.size w)
  obtain ⟨m1, m2, m3, m4, m5, m6, m7, m8, -, -, -, -, -, -⟩ := hm
  clear hp
  go_enter Yba.func7, Yba.ntmps7
  go_wp2_with fail
  go_quiet (fail)
  go_wp2_with fail
  go_quiet (fail)
  go_wp2_with fail
  go_quiet (fail)
  go_wp2
  go_ret
  exact ⟨rfl, done_of HP.out (Below.drewN HB0.out _)⟩

set_option maxHeartbeats 4000000 in
theorem next_f_m (bm bp bl sl bo so B Q pb ps lot : Nat) (v t t' : Int) (w : World)
    (hm : MktAt w bm bp bl sl bo so pb ps lot none (some ⟨sl, 0, none⟩)) (hp : PoolAt w bp B Q t)
    (H2 : Hid (∀ W : World, PoolAt W bp B Q t → Calls Yba.prog 10 #[.pointer (some ⟨bp, 0, none⟩), .int .i64 ps, .int .i64 lot] W fun e w' => e = .returned (.int .i64 (-1)) ∧ Below W.heap.size W w')) :
    Calls Yba.prog 7 #[.pointer (some ⟨bm, 0, none⟩)] w fun e w' => e = .returned (.pointer (none)) ∧ PoolAt w' bp B Q t ∧ Below bp w w' ∧ (∀ k, k < w.heap.size → k ≠ bp → w'.heap[k]? = w.heap[k]?) := by
  have HM := hid hm
  have HP := hid hp
  have HB0 := hid (Below.refl w.heap.size w)
  obtain ⟨m1, m2, m3, m4, m5, m6, m7, m8, -, -, -, -, -, -⟩ := hm
  clear hp
  go_enter Yba.func7, Yba.ntmps7
  go_wp2_with fail
  go_quiet (fail)
  go_wp2_with fail
  go_quiet (fail)
  go_wp2_with fail
  go_region_held3 (fun w' => w'.cell? ⟨bm, 20, none⟩ = some (.int .i64 lot) ∧ w'.cell? ⟨bm, 21, none⟩ = some (.pointer (some ⟨bp, 0, none⟩)) ∧ w'.cell? ⟨sl, 0, none⟩ = some (.int .i64 ps)) (go_keep)
    (first
      | (go_at_call 10; refine (H2.out _ (by exact (HP.out.below HB0.out).drewN _)).mono ?_; rintro e w2 ⟨rfl, hb1⟩; have HB2 := hid (HB0.out.trans ((Below.drewN (Below.refl _ w) _).trans hb1 |>.mono HB0.out.size)); obtain ⟨m1, m2, m3, m4, m5, m6, m7, m8, -, -, -, -, -, -⟩ := HM.out.belowS HB2.out; clear hb1))
  go_wp2
  go_ret
  exact ⟨rfl, done_of HP.out HB2.out⟩

set_option maxHeartbeats 4000000 in
theorem next_f_z (bm bp bl sl bo so B Q pb ps lot : Nat) (v t t' : Int) (w : World)
    (hm : MktAt w bm bp bl sl bo so pb ps lot none (some ⟨sl, 0, none⟩)) (hp : PoolAt w bp B Q t)
    (H2 : Hid (∀ W : World, PoolAt W bp B Q t → Calls Yba.prog 10 #[.pointer (some ⟨bp, 0, none⟩), .int .i64 ps, .int .i64 lot] W fun e w' => e = .returned (.int .i64 (0)) ∧ Below W.heap.size W w')) :
    Calls Yba.prog 7 #[.pointer (some ⟨bm, 0, none⟩)] w fun e w' => e = .returned (.pointer (none)) ∧ PoolAt w' bp B Q t ∧ Below bp w w' ∧ (∀ k, k < w.heap.size → k ≠ bp → w'.heap[k]? = w.heap[k]?) := by
  have HM := hid hm
  have HP := hid hp
  have HB0 := hid (Below.refl w.heap.size w)
  obtain ⟨m1, m2, m3, m4, m5, m6, m7, m8, -, -, -, -, -, -⟩ := hm
  clear hp
  go_enter Yba.func7, Yba.ntmps7
  go_wp2_with fail
  go_quiet (fail)
  go_wp2_with fail
  go_quiet (fail)
  go_wp2_with fail
  go_region_held3 (fun w' => w'.cell? ⟨bm, 20, none⟩ = some (.int .i64 lot) ∧ w'.cell? ⟨bm, 21, none⟩ = some (.pointer (some ⟨bp, 0, none⟩)) ∧ w'.cell? ⟨sl, 0, none⟩ = some (.int .i64 ps)) (go_keep)
    (first
      | (go_at_call 10; refine (H2.out _ (by exact (HP.out.below HB0.out).drewN _)).mono ?_; rintro e w2 ⟨rfl, hb1⟩; have HB2 := hid (HB0.out.trans ((Below.drewN (Below.refl _ w) _).trans hb1 |>.mono HB0.out.size)); obtain ⟨m1, m2, m3, m4, m5, m6, m7, m8, -, -, -, -, -, -⟩ := HM.out.belowS HB2.out; clear hb1))
  go_wp2
  go_ret
  exact ⟨rfl, done_of HP.out HB2.out⟩

set_option maxHeartbeats 4000000 in
theorem next_f_p (bm bp bl sl bo so B Q pb ps lot : Nat) (v t t' : Int) (w : World)
    (hm : MktAt w bm bp bl sl bo so pb ps lot none (some ⟨sl, 0, none⟩)) (hp : PoolAt w bp B Q t)
    (H2 : Hid (∀ W : World, PoolAt W bp B Q t → Calls Yba.prog 10 #[.pointer (some ⟨bp, 0, none⟩), .int .i64 ps, .int .i64 lot] W fun e w' => e = .returned (.int .i64 (1)) ∧ Below W.heap.size W w')) :
    Calls Yba.prog 7 #[.pointer (some ⟨bm, 0, none⟩)] w fun e w' => e = .returned (.pointer (some ⟨so, 0, none⟩)) ∧ PoolAt w' bp B Q t ∧ Below bp w w' ∧ (∀ k, k < w.heap.size → k ≠ bp → w'.heap[k]? = w.heap[k]?) := by
  have HM := hid hm
  have HP := hid hp
  have HB0 := hid (Below.refl w.heap.size w)
  obtain ⟨m1, m2, m3, m4, m5, m6, m7, m8, -, -, -, -, -, -⟩ := hm
  clear hp
  go_enter Yba.func7, Yba.ntmps7
  go_wp2_with fail
  go_quiet (fail)
  go_wp2_with fail
  go_quiet (fail)
  go_wp2_with fail
  go_region_held3 (fun w' => w'.cell? ⟨bm, 20, none⟩ = some (.int .i64 lot) ∧ w'.cell? ⟨bm, 21, none⟩ = some (.pointer (some ⟨bp, 0, none⟩)) ∧ w'.cell? ⟨sl, 0, none⟩ = some (.int .i64 ps)) (go_keep)
    (first
      | (go_at_call 10; refine (H2.out _ (by exact (HP.out.below HB0.out).drewN _)).mono ?_; rintro e w2 ⟨rfl, hb1⟩; have HB2 := hid (HB0.out.trans ((Below.drewN (Below.refl _ w) _).trans hb1 |>.mono HB0.out.size)); obtain ⟨m1, m2, m3, m4, m5, m6, m7, m8, -, -, -, -, -, -⟩ := HM.out.belowS HB2.out; clear hb1))
  go_wp2
  go_ret
  exact ⟨rfl, done_of HP.out HB2.out⟩
end Go.Proofs.Ybulkagtg
