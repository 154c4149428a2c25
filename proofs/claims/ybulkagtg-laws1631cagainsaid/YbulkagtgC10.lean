import Derived.Test.YbulkagtgC9
namespace Go.Proofs.Ybulkagtg
open Go.RowKit Go.Lib
set_option linter.unusedVariables false

set_option maxHeartbeats 4000000 in
theorem again_gen (hb hs : Bool) (pb ps B Q lot tie : Nat) (t t1 t2 k0 k1 k2 : Int) (b : Bool) (w : World)
    (H5 : Hid (∀ W : World, Calls Yba.prog 5 #[inAgg hb hs pb ps B Q lot tie] W fun e w' => ∃ bm bp bl sl bo so, e = .returned (.tuple #[.pointer (some ⟨bm, 0, none⟩), .pointer (some ⟨bo, 0, none⟩), .pointer (some ⟨so, 0, none⟩)]) ∧ bo ≠ so ∧ W.heap.size ≤ bp ∧ PoolAt w' bp B Q t ∧
      MktAt w' bm bp bl sl bo so pb ps lot (if hb = true then some ⟨bl, 0, none⟩ else none) (if hs = true then some ⟨sl, 0, none⟩ else none) ∧ OrdAt w' bp bo so ∧ Below W.heap.size W w'))
    (H6 : Hid (∀ W : World, Calls Yba.prog 6 #[inAgg hb hs pb ps B Q lot tie, .int .i8 t] W fun e w' => e = .returned (.tuple #[.int .i64 k0, .bool b]) ∧ Below W.heap.size W w'))
    (H7 : Hid (∀ (bm bp bl sl bo so : Nat) (W : World), MktAt W bm bp bl sl bo so pb ps lot (if hb = true then some ⟨bl, 0, none⟩ else none) (if hs = true then some ⟨sl, 0, none⟩ else none) → PoolAt W bp B Q t → Calls Yba.prog 7 #[.pointer (some ⟨bm, 0, none⟩)] W (NextLeaves bp B Q t1 (ptrOf bo so k1) W)))
    (H8 : Hid (∀ (bm bp bl sl bo so : Nat) (W : World), MktAt W bm bp bl sl bo so pb ps lot (if hb = true then some ⟨bl, 0, none⟩ else none) (if hs = true then some ⟨sl, 0, none⟩ else none) → PoolAt W bp B Q t1 → Calls Yba.prog 7 #[.pointer (some ⟨bm, 0, none⟩)] W (NextLeaves bp B Q t2 (ptrOf bo so k2) W)))
    (HC : Hid ((b = false ∧ k1 = k2 ∧ (k1 = 0 ∨ k1 = 1 ∨ k1 = 2)) ∨ (b = true ∧ (k1 = 1 ∧ k2 = 2 ∨ k1 = 2 ∧ k2 = 1)))) :
    Calls Yba.prog 4 #[inAgg hb hs pb ps B Q lot tie] w fun e w' => e = .returned (.bool true) ∧ Below w.heap.size w w' := by
  unfold inAgg at *
  go_enter Yba.func4, Yba.ntmps4
  go_wp2_with fail
  refine (H5.out _).mono ?_
  rintro e w1 ⟨bm, bp, bl, sl, bo, so, rfl, hne, hge, hP, hM, hO, hB⟩
  have HI := hid ((inAt_new w hb hs pb ps B Q lot tie).kept hB.size (hB.block _ (by simp)))
  have HB1 := hid (((Below.refl w.heap.size w).alloc (Nat.le_refl _) _).trans (hB.mono (by simp)))
  have hn : w.heap.size < bp := by simp at hge; omega
  have HNp := hid hn
  have HO := hid hO
  have HP := hid hP
  have HM := hid hM
  clear hB hge hO hn
  obtain ⟨c0, c1, c2, c3, c4, c5, c6, c7, -⟩ := HI.out
  have m4 := HM.out.po
  have p7 := HP.out.tie
  clear hP hM
  generalize hN : w.heap.size = N at *
  have HN := hid hN
  clear hN
  go_wp2_with fail
  go_region_held3 (fun w' => w'.cell? ⟨N, 0, none⟩ = some (.bool hb) ∧ w'.cell? ⟨N, 1, none⟩ = some (.bool hs) ∧ w'.cell? ⟨N, 2, none⟩ = some (.int .u32 pb) ∧ w'.cell? ⟨N, 3, none⟩ = some (.int .u32 ps) ∧ w'.cell? ⟨N, 4, none⟩ = some (.int .u16 B) ∧ w'.cell? ⟨N, 5, none⟩ = some (.int .u16 Q) ∧ w'.cell? ⟨N, 6, none⟩ = some (.int .u16 lot) ∧ w'.cell? ⟨N, 7, none⟩ = some (.int .u8 tie) ∧ w'.cell? ⟨bm, 21, none⟩ = some (.pointer (some ⟨bp, 0, none⟩)) ∧ w'.cell? ⟨bp, 7, none⟩ = some (.int .i8 t)) (go_keep)
    (first
      | (go_at_call 6; refine (H6.out _).mono ?_; rintro e w2 ⟨rfl, hB2⟩; have HB2 := hid ((Below.drewN (Below.refl w1.heap.size w1) _).trans hB2); obtain ⟨c0, c1, c2, c3, c4, c5, c6, c7, -⟩ := HI.out.kept HB2.out.size (HB2.out.block _ HI.out.lt); have m4 := (HM.out.belowS HB2.out).po; have p7 := (HP.out.below HB2.out).tie; clear hB2))
  all_goals go_wp2_with fail
  all_goals refine (H7.out bm bp bl sl bo so w2 (HM.out.belowS HB2.out) (HP.out.below HB2.out)).mono ?_
  rintro e w3 ⟨rfl, hP3, hB3, hk3⟩
  have HP3 := hid hP3
  have HB3 := hid (HB1.out.trans ((HB2.out.mono (show N ≤ w1.heap.size from by have := HI.out.lt; omega)).trans (hB3.mono (Nat.le_of_lt HNp.out))))
  have HO3 := hid ((HO.out.kept HB2.out.size (fun k hk _ => HB2.out.block k hk)).kept hB3.size hk3)
  have HM3 := hid ((HM.out.belowS HB2.out).kept hB3.size hk3)
  clear hB3 hk3 hP3
  go_wp2_with fail
  refine (H8.out bm bp bl sl bo so w3 HM3.out HP3.out).mono ?_
  rintro e w4 ⟨rfl, hP4, hB4, hk4⟩
  have HBE := hid (HB3.out.trans (hB4.mono (Nat.le_of_lt HNp.out)))
  have HO4 := hid (HO3.out.kept hB4.size hk4)
  clear hB4 hk4 hP4 c0 c1 c2 c3 c4 c5 c6 c7 m4 p7
  obtain ⟨j, hj, hjz⟩ := info70
  obtain ⟨cb, hcb⟩ := HO4.out.b
  obtain ⟨cs, hcs⟩ := HO4.out.s
  have hbs : (⟨bo, 0, none⟩ : Addr) ≠ ⟨so, 0, none⟩ := by
    intro e
    exact HO4.out.ne (congrArg Addr.block e)
  have q1 := hid (run_neq_ptr_other (P := Yba.prog) (w := w4) (tp := 27) Yba.underlying27 hj hjz hbs hcb hcs)
  have q2 := hid (run_neq_ptr_other (P := Yba.prog) (w := w4) (tp := 27) Yba.underlying27 hj hjz (Ne.symm hbs) hcs hcb)
  clear hbs hcb hcs
  rcases HC.out with ⟨rfl, rfl, rfl | rfl | rfl⟩ | ⟨rfl, ⟨rfl, rfl⟩ | ⟨rfl, rfl⟩⟩
  · rw [show ptrOf bo so 0 = none from rfl]
    go_wp2
    go_ret
    exact ⟨rfl, HN.out ▸ HBE.out⟩
  · rw [show ptrOf bo so 1 = some ⟨bo, 0, none⟩ from rfl]
    have heq : Sem.run Yba.prog (binOp .eql 27 (.pointer (some ⟨bo, 0, none⟩)) (.pointer (some ⟨bo, 0, none⟩))) w4 = .ok (.bool true) w4 := run_eql_ptr_same _ _ Yba.underlying27 hj
    go_wp2
    go_ret
    exact ⟨rfl, HN.out ▸ HBE.out⟩
  · rw [show ptrOf bo so 2 = some ⟨so, 0, none⟩ from rfl]
    have heq : Sem.run Yba.prog (binOp .eql 27 (.pointer (some ⟨so, 0, none⟩)) (.pointer (some ⟨so, 0, none⟩))) w4 = .ok (.bool true) w4 := run_eql_ptr_same _ _ Yba.underlying27 hj
    go_wp2
    go_ret
    exact ⟨rfl, HN.out ▸ HBE.out⟩
  · rw [show ptrOf bo so 1 = some ⟨bo, 0, none⟩ from rfl, show ptrOf bo so 2 = some ⟨so, 0, none⟩ from rfl]
    have hq := q1.out
    go_wp2
    go_ret
    exact ⟨rfl, HN.out ▸ HBE.out⟩
  · rw [show ptrOf bo so 1 = some ⟨bo, 0, none⟩ from rfl, show ptrOf bo so 2 = some ⟨so, 0, none⟩ from rfl]
    have hq := q2.out
    go_wp2
    go_ret
    exact ⟨rfl, HN.out ▸ HBE.out⟩

theorem again_walk (hb hs : Bool) (pb ps B Q lot tie : Nat) (w : World) (bB : B < 65536) (bQ : Q < 65536) (bL : lot < 65536) (b1 : pb < 4294967296) (b2 : ps < 4294967296) (b3 : tie < 256) :
    Calls Yba.prog 4 #[inAgg hb hs pb ps B Q lot tie] w fun e w' => e = .returned (.bool true) ∧ Below w.heap.size w w' := by
  have hc := want_cases (canB hb pb B Q lot) (canS hs ps B Q lot) ((pb + ps) * B) (2 * Q * lot) (tie0 tie)
  have hst := want_still (canB hb pb B Q lot) (canS hs ps B Q lot) ((pb + ps) * B) (2 * Q * lot)
  have hcase := fun t => want_cases (canB hb pb B Q lot) (canS hs ps B Q lot) ((pb + ps) * B) (2 * Q * lot) t
  have H7 := fun t bm bp bl sl bo so W hm hp => next_any bm bp bl sl bo so B Q pb ps lot hb hs t W hm hp bB bQ bL b1 b2
  have H6 := fun W => model_any hb hs pb ps B Q lot tie (tie0 tie) W bB bQ bL b1 b2
  refine again_gen hb hs pb ps B Q lot tie (tie0 tie) _ _ _ _ _ _ w (hid (fun W => build_any hb hs pb ps B Q lot tie W bB bQ bL b1 b2 b3)) (hid H6) (hid (H7 (tie0 tie))) (hid (H7 _)) (hid ?_)
  rcases hc with ⟨h, hk⟩ | ⟨h, hk⟩
  · rw [h, if_neg (by decide)]
    exact Or.inl ⟨rfl, rfl, hk⟩
  · rw [h, if_pos rfl]
    refine Or.inr ⟨rfl, ?_⟩
    rcases hcase (swapT (tie0 tie)) with ⟨g, _⟩ | ⟨_, g⟩
    · rw [h] at g; exact absurd g (by decide)
    · rw [hk, g]
      unfold swapT
      by_cases e : tie0 tie = 1
      · exact Or.inr ⟨by simp [e], by simp [e]⟩
      · exact Or.inl ⟨by simp [e], by simp [e]⟩
end Go.Proofs.Ybulkagtg
