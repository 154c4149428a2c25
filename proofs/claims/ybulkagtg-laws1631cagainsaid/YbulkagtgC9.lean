import Derived.Test.YbulkagtgC7
import Derived.Test.YbulkagtgC8
import Derived.LaidEqlPtr
namespace Go.Proofs.Ybulkagtg
open Go.RowKit Go.Lib
set_option linter.unusedVariables false

theorem run_neq_ptr_same {P : Program} {tp te : TypeId} {j : TypeInfo} (w : World) (a : Addr) (hp : P.underlying tp = some (.pointer te)) (hte : P.info? te = some j) :
    (binOp .neq tp (.pointer (some a)) (.pointer (some a))).run P w = .ok (.bool false) w := by
  have h : ∀ d : Nat, (Op.equalIn (d + 1) tp (.pointer (some a)) (.pointer (some a))).run P w = .ok true w := fun d => by
    simp [Op.equalIn, run_underlying hp, sizeOf, typeInfo, hte, run_sameAddr_same]
  simp only [binOp]
  simp [Op.equal, Op.maxDepth, h 9999]

theorem run_neq_ptr_other {P : Program} {w : World} {tp te : TypeId} {j : TypeInfo} {a b : Addr} {ca cb : Array Value} {ta tb : TypeId} (hp : P.underlying tp = some (.pointer te)) (hte : P.info? te = some j) (hsz : j.size ≠ 0)
    (hne : a ≠ b) (ha : w.heap[a.block]? = some (.cells ca ta (0, 0))) (hb : w.heap[b.block]? = some (.cells cb tb (0, 0))) :
    (binOp .neq tp (.pointer (some a)) (.pointer (some b))).run P w = .ok (.bool true) w := by
  have h : ∀ d : Nat, (Op.equalIn (d + 1) tp (.pointer (some a)) (.pointer (some b))).run P w = .ok false w := fun d => by
    simp [Op.equalIn, run_underlying hp, sizeOf, typeInfo, hte, hsz, run_sameAddr_other w hne ha hb]
  simp only [binOp]
  simp [Op.equal, Op.maxDepth, h 9999]

theorem size70 : (Yba.prog.info? 70).map (fun i => i.size) = some 14 := by kernel_rfl
theorem info70 : ∃ j, Yba.prog.info? 70 = some j ∧ j.size ≠ 0 := by
  have h := size70
  cases hi : Yba.prog.info? 70 with
  | none => rw [hi] at h; simp at h
  | some j =>
    rw [hi] at h
    simp at h
    exact ⟨j, rfl, by omega⟩

/-- The input's cells, at a block. -/
structure InAt (w : World) (n : Nat) (hb hs : Bool) (pb ps B Q lot tie : Nat) : Prop where
  c0 : w.cell? ⟨n, 0, none⟩ = some (.bool hb)
  c1 : w.cell? ⟨n, 1, none⟩ = some (.bool hs)
  c2 : w.cell? ⟨n, 2, none⟩ = some (.int .u32 pb)
  c3 : w.cell? ⟨n, 3, none⟩ = some (.int .u32 ps)
  c4 : w.cell? ⟨n, 4, none⟩ = some (.int .u16 B)
  c5 : w.cell? ⟨n, 5, none⟩ = some (.int .u16 Q)
  c6 : w.cell? ⟨n, 6, none⟩ = some (.int .u16 lot)
  c7 : w.cell? ⟨n, 7, none⟩ = some (.int .u8 tie)
  lt : n < w.heap.size

theorem InAt.kept {w w' : World} {n : Nat} {hb hs : Bool} {pb ps B Q lot tie : Nat} (h : InAt w n hb hs pb ps B Q lot tie) (hz : w.heap.size ≤ w'.heap.size) (hk : w'.heap[n]? = w.heap[n]?) : InAt w' n hb hs pb ps B Q lot tie := by
  have c : ∀ o, w'.cell? ⟨n, o, none⟩ = w.cell? ⟨n, o, none⟩ := fun o => World.cell?_of_block (a := ⟨n, o, none⟩) hk
  exact ⟨(c _).trans h.c0, (c _).trans h.c1, (c _).trans h.c2, (c _).trans h.c3, (c _).trans h.c4, (c _).trans h.c5, (c _).trans h.c6, (c _).trans h.c7, Nat.lt_of_lt_of_le h.lt hz⟩

theorem inAt_new (w : World) (hb hs : Bool) (pb ps B Q lot tie : Nat) : InAt (w.alloc (Obj.cells #[Value.bool hb, Value.bool hs, Value.int IntKind.u32 pb, Value.int IntKind.u32 ps, Value.int IntKind.u16 B, Value.int IntKind.u16 Q, Value.int IntKind.u16 lot, Value.int IntKind.u8 tie] 25)) w.heap.size hb hs pb ps B Q lot tie := by
  refine ⟨?_, ?_, ?_, ?_, ?_, ?_, ?_, ?_, ?_⟩
  all_goals simp

theorem want_cases (cb cs : Bool) (x y : Nat) (t : Int) : (tiedOf cb cs x y = false ∧ (wantOf cb cs x y t = 0 ∨ wantOf cb cs x y t = 1 ∨ wantOf cb cs x y t = 2)) ∨ (tiedOf cb cs x y = true ∧ wantOf cb cs x y t = swapT t) := by
  unfold tiedOf wantOf swapT
  cases cb <;> cases cs <;> simp
  rcases Nat.lt_trichotomy x y with h | h | h
  · have h1 : ¬ y < x := by omega
    have h2 : ¬ x = y := by omega
    simp [h, h1, h2]
  · subst h; simp
  · have h2 : ¬ x = y := by omega
    have h3 : ¬ x ≤ y := by omega
    simp [h, h2, h3]

theorem want_still (cb cs : Bool) (x y : Nat) (t t' : Int) (h : tiedOf cb cs x y = false) : wantOf cb cs x y t = wantOf cb cs x y t' := by
  unfold tiedOf at h
  unfold wantOf
  cases cb <;> cases cs <;> simp at h ⊢
  rcases Nat.lt_trichotomy x y with g | g | g
  · have h1 : ¬ y < x := by omega
    simp [g, h1]
  · exact absurd g h
  · simp [g]

set_option maxHeartbeats 2000000 in
theorem pick_walk (hb hs : Bool) (pb ps B Q lot tie : Nat) (w : World) (bB : B < 65536) (bQ : Q < 65536) (bL : lot < 65536) (b1 : pb < 4294967296) (b2 : ps < 4294967296) (b3 : tie < 256) :
    Calls Yba.prog 3 #[inAgg hb hs pb ps B Q lot tie] w fun e w' => e = .returned (.bool true) ∧ Below w.heap.size w w' := by
  have H5 := hid (fun W => build_any hb hs pb ps B Q lot tie W bB bQ bL b1 b2 b3)
  have H6 := hid (fun W => model_any hb hs pb ps B Q lot tie (tie0 tie) W bB bQ bL b1 b2)
  have H7 := hid (fun bm bp bl sl bo so W hm hp => next_any bm bp bl sl bo so B Q pb ps lot hb hs (tie0 tie) W hm hp bB bQ bL b1 b2)
  have hc := want_cases (canB hb pb B Q lot) (canS hs ps B Q lot) ((pb + ps) * B) (2 * Q * lot) (tie0 tie)
  generalize wantOf (canB hb pb B Q lot) (canS hs ps B Q lot) ((pb + ps) * B) (2 * Q * lot) (tie0 tie) = k at *
  generalize tiedOf (canB hb pb B Q lot) (canS hs ps B Q lot) ((pb + ps) * B) (2 * Q * lot) = b at *
  have HC := hid hc
  clear hc
  unfold inAgg at *
  generalize tie0 tie = t at *
  go_enter Yba.func3, Yba.ntmps3
  go_wp2_with fail
  refine (H5.out _).mono ?_
  rintro e w1 ⟨bm, bp, bl, sl, bo, so, rfl, hne, hge, hP, hM, hO, hB⟩
  have HI := hid ((inAt_new w hb hs pb ps B Q lot tie).kept hB.size (hB.block _ (by simp)))
  have HB1 := hid (((Below.refl w.heap.size w).alloc (Nat.le_refl _) _).trans (hB.mono (by simp)))
  have hn : w.heap.size < bp := by simp at hge; omega
  have HNp := hid hn
  have HO := hid hO
  have HP := hid hP
  have HM := hid hM
  have HE := hid (hB.size)
  clear hB hge hO hn
  obtain ⟨c0, c1, c2, c3, c4, c5, c6, c7, -⟩ := HI.out
  have m4 := HM.out.po
  have p7 := HP.out.tie
  clear hP hM
  generalize hN : w.heap.size = N at *
  have HN := hid hN
  clear hN
  go_wp2_with fail
  refine (H6.out _).mono ?_
  rintro e w2 ⟨rfl, hB2⟩
  have HB2 := hid hB2
  clear hB2
  go_wp2_with fail
  refine (H7.out bm bp bl sl bo so w2 (HM.out.belowS HB2.out) (HP.out.below HB2.out)).mono ?_
  rintro e w3 ⟨rfl, hP3, hB3, hk3⟩
  have HP3 := hid hP3
  have HBE := hid (HB1.out.trans ((HB2.out.mono (show N ≤ w1.heap.size from by have := HI.out.lt; omega)).trans (hB3.mono (Nat.le_of_lt HNp.out))))
  have HI3 := hid ((HI.out.kept HB2.out.size (HB2.out.block _ HI.out.lt)).kept hB3.size (hB3.block _ HNp.out))
  have HO3 := hid ((HO.out.kept HB2.out.size (fun k hk _ => HB2.out.block k hk)).kept hB3.size hk3)
  have HM3 := hid ((HM.out.belowS HB2.out).kept hB3.size hk3)
  clear hB3 hk3 hP3 c0 c1 c2 c3 c4 c5 c6 c7 m4 p7
  have c4 := HI3.out.c4
  have c5 := HI3.out.c5
  have m4 := HM3.out.po
  have p7 := HP3.out.tie
  obtain ⟨j, hj, hjz⟩ := info70
  rcases HC.out with ⟨rfl, rfl | rfl | rfl⟩ | ⟨rfl, rfl⟩
  · rw [show ptrOf bo so 0 = none from rfl]
    rw [if_neg (by decide)] at p7 HP3
    have h0 := HP3.out.base
    have h3 := HP3.out.quote
    go_wp2_with (go_at_call 8; refine (balances_any bp B Q _ h0 h3).mono ?_; rintro e w4 ⟨rfl, m, rfl⟩)
    go_ret
    exact ⟨rfl, Below.drewN (HN.out ▸ HBE.out) _⟩
  · rw [show ptrOf bo so 1 = some ⟨bo, 0, none⟩ from rfl]
    rw [if_neg (by decide)] at p7 HP3
    have hneq : Sem.run Yba.prog (binOp .neq 27 (.pointer (some ⟨bo, 0, none⟩)) (.pointer (some ⟨bo, 0, none⟩))) w3 = .ok (.bool false) w3 := run_neq_ptr_same _ _ Yba.underlying27 hj
    have h0 := HP3.out.base
    have h3 := HP3.out.quote
    go_wp2_with (go_at_call 8; refine (balances_any bp B Q _ h0 h3).mono ?_; rintro e w4 ⟨rfl, m, rfl⟩)
    go_ret
    exact ⟨rfl, Below.drewN (HN.out ▸ HBE.out) _⟩
  · rw [show ptrOf bo so 2 = some ⟨so, 0, none⟩ from rfl]
    rw [if_neg (by decide)] at p7 HP3
    have hneq : Sem.run Yba.prog (binOp .neq 27 (.pointer (some ⟨so, 0, none⟩)) (.pointer (some ⟨so, 0, none⟩))) w3 = .ok (.bool false) w3 := run_neq_ptr_same _ _ Yba.underlying27 hj
    have h0 := HP3.out.base
    have h3 := HP3.out.quote
    go_wp2_with (go_at_call 8; refine (balances_any bp B Q _ h0 h3).mono ?_; rintro e w4 ⟨rfl, m, rfl⟩)
    go_ret
    exact ⟨rfl, Below.drewN (HN.out ▸ HBE.out) _⟩
  · rw [if_pos rfl] at p7 HP3
    have hs2 : swapT t = 2 ∨ swapT t = 1 := by
      unfold swapT
      split
      · exact Or.inl rfl
      · exact Or.inr rfl
    rcases hs2 with e | e
    · skip
      rw [e, show ptrOf bo so 2 = some ⟨so, 0, none⟩ from rfl]
      rw [e] at p7 HP3
      have hneq : Sem.run Yba.prog (binOp .neq 27 (.pointer (some ⟨so, 0, none⟩)) (.pointer (some ⟨so, 0, none⟩))) w3 = .ok (.bool false) w3 := run_neq_ptr_same _ _ Yba.underlying27 hj
      have h0 := HP3.out.base
      have h3 := HP3.out.quote
      clear e
      go_wp2_with (go_at_call 8; refine (balances_any bp B Q _ h0 h3).mono ?_; rintro e w4 ⟨rfl, m, rfl⟩)
      go_ret
      exact ⟨rfl, Below.drewN (HN.out ▸ HBE.out) _⟩
    · skip
      rw [e, show ptrOf bo so 1 = some ⟨bo, 0, none⟩ from rfl]
      rw [e] at p7 HP3
      have hneq : Sem.run Yba.prog (binOp .neq 27 (.pointer (some ⟨bo, 0, none⟩)) (.pointer (some ⟨bo, 0, none⟩))) w3 = .ok (.bool false) w3 := run_neq_ptr_same _ _ Yba.underlying27 hj
      have h0 := HP3.out.base
      have h3 := HP3.out.quote
      clear e
      go_wp2_with (go_at_call 8; refine (balances_any bp B Q _ h0 h3).mono ?_; rintro e w4 ⟨rfl, m, rfl⟩)
      go_ret
      exact ⟨rfl, Below.drewN (HN.out ▸ HBE.out) _⟩
end Go.Proofs.Ybulkagtg
