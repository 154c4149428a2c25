import Derived.Test.YbulkagtgC3
namespace Go.Proofs.Ybulkagtg
open Go.RowKit Go.Lib
set_option linter.unusedVariables false

set_option maxHeartbeats 1000000 in
theorem comparePrice_any (bp : Nat) (B Q price lot : Nat) (w : World) (h1 : w.cell? ⟨bp, 1, none⟩ = some (.int .i64 B)) (h3 : w.cell? ⟨bp, 3, none⟩ = some (.int .i64 Q))
    (bB : B < 65536) (bQ : Q < 65536) (bl : lot < 65536) (bp' : price < 4294967296) :
    Calls Yba.prog 10 #[.pointer (some ⟨bp, 0, none⟩), .int .i64 price, .int .i64 lot] w fun e w' => e = .returned (.int .i64 (cmpN (Q * lot) (price * B))) ∧ Below w.heap.size w w' := by
  go_enter Yba.func10, Yba.ntmps10
  go_wp2_with fail
  refine (balances_any _ _ _ _ h1 h3).mono ?_
  rintro e w' ⟨rfl, m, rfl⟩
  go_wp2_with fail
  refine (compareProducts_any Q lot price B _ (by omega) (by omega) (by omega) (by omega)).mono ?_
  rintro e w' ⟨rfl, hb⟩
  go_wp2
  go_ret
  exact ⟨rfl, (Below.drewN (Below.refl _ _) m).trans hb⟩

/-- What the pool keeps. -/
structure PoolAt (w : World) (bp : Nat) (B Q : Nat) (t : Int) : Prop where
  base : w.cell? ⟨bp, 1, none⟩ = some (.int .i64 B)
  quote : w.cell? ⟨bp, 3, none⟩ = some (.int .i64 Q)
  tie : w.cell? ⟨bp, 7, none⟩ = some (.int .i8 t)
  soft : w.frozen? ⟨bp, 7, none⟩ = false
  lt : bp < w.heap.size

theorem PoolAt.below {w w' : World} {bp B Q : Nat} {t : Int} (h : PoolAt w bp B Q t) (hb : Below w.heap.size w w') : PoolAt w' bp B Q t :=
  ⟨(hb.cell h.lt).trans h.base, (hb.cell h.lt).trans h.quote, (hb.cell h.lt).trans h.tie, (hb.frozen h.lt).trans h.soft, Nat.lt_of_lt_of_le h.lt hb.size⟩

theorem PoolAt.store {w : World} {bp B Q : Nat} {t : Int} (h : PoolAt w bp B Q t) (t' : Int) : PoolAt (w.setCell ⟨bp, 7, none⟩ (.int .i8 t')) bp B Q t' := by
  refine ⟨?_, ?_, ?_, ?_, ?_⟩
  · exact (World.cell?_setCell_other w ⟨bp, 7, none⟩ ⟨bp, 1, none⟩ _ (by simp)).trans h.base
  · exact (World.cell?_setCell_other w ⟨bp, 7, none⟩ ⟨bp, 3, none⟩ _ (by simp)).trans h.quote
  · exact World.cell?_setCell_same w _ _ h.tie
  · rw [World.frozen?_setCell]; exact h.soft
  · simp [World.setCell]; exact h.lt

/-- The side that is further from the pool's price, and the tie kept behind it. -/
def sideOf (c t : Int) : Int := if c = 1 then 1 else if c = -1 then 2 else if t = 1 then 2 else 1
def tieOf (c t : Int) : Int := if c = 1 then t else if c = -1 then t else if t = 1 then 2 else 1

set_option maxHeartbeats 1000000 in
theorem furtherSide_any (bp : Nat) (B Q buy sell lot : Nat) (t : Int) (w : World) (hp : PoolAt w bp B Q t)
    (bB : B < 65536) (bQ : Q < 65536) (bl : lot < 65536) (b1 : buy < 4294967296) (b2 : sell < 4294967296) :
    Calls Yba.prog 11 #[.pointer (some ⟨bp, 0, none⟩), .int .i64 buy, .int .i64 sell, .int .i64 lot] w fun e w' =>
      e = .returned (.int .i8 (sideOf (cmpN ((buy + sell) * B) (2 * Q * lot)) t)) ∧ PoolAt w' bp B Q (tieOf (cmpN ((buy + sell) * B) (2 * Q * lot)) t) ∧ Below bp w w' ∧ (∀ k, k < w.heap.size → k ≠ bp → w'.heap[k]? = w.heap[k]?) := by
  have CP : ∀ W : World, Calls Yba.prog 13 #[.int .u64 ((buy : Int) + (sell : Int)), .int .u64 B, .int .u64 (2 * (Q : Int)), .int .u64 lot] W fun e w' => e = .returned (.int .i64 (cmpN ((buy + sell) * B) (2 * Q * lot))) ∧ Below W.heap.size W w' := by
    intro W
    have h := compareProducts_any (buy + sell) B (2 * Q) lot W (by omega) (by omega) (by omega) (by omega)
    have e1 : ((buy + sell : Nat) : Int) = (buy : Int) + (sell : Int) := by omega
    have e2 : ((2 * Q : Nat) : Int) = 2 * (Q : Int) := by omega
    rw [e1, e2] at h
    exact h
  have hc : cmpN ((buy + sell) * B) (2 * Q * lot) = 1 ∨ cmpN ((buy + sell) * B) (2 * Q * lot) = -1 ∨ cmpN ((buy + sell) * B) (2 * Q * lot) = 0 := by
    unfold cmpN
    split
    · exact Or.inr (Or.inl rfl)
    · split
      · exact Or.inl rfl
      · exact Or.inr (Or.inr rfl)
  generalize cmpN ((buy + sell) * B) (2 * Q * lot) = c at *
  have CP' := hid CP
  clear CP
  have HP := hid hp
  obtain ⟨h1, h3, h6, hs, hl⟩ := hp
  have HL := hid hl
  clear hl
  rcases hc with rfl | rfl | rfl
  · go_enter Yba.func11, Yba.ntmps11
    go_wp2_with fail
    refine (balances_any _ _ _ _ h1 h3).mono ?_
    rintro e w' ⟨rfl, m, rfl⟩
    go_wp2_with fail
    refine (CP'.out _).mono ?_
    rintro e w' ⟨rfl, hb⟩
    have HB := hid ((Below.drewN (Below.refl _ _) m).trans hb)
    clear hb
    go_wp2
    go_ret
    exact ⟨rfl, HP.out.below HB.out, HB.out.mono (Nat.le_of_lt HL.out), fun k hk _ => HB.out.block k hk⟩
  · go_enter Yba.func11, Yba.ntmps11
    go_wp2_with fail
    refine (balances_any _ _ _ _ h1 h3).mono ?_
    rintro e w' ⟨rfl, m, rfl⟩
    go_wp2_with fail
    refine (CP'.out _).mono ?_
    rintro e w' ⟨rfl, hb⟩
    have HB := hid ((Below.drewN (Below.refl _ _) m).trans hb)
    clear hb
    go_wp2
    go_ret
    exact ⟨rfl, HP.out.below HB.out, HB.out.mono (Nat.le_of_lt HL.out), fun k hk _ => HB.out.block k hk⟩
  · by_cases ht : t = 1
    · subst ht
      go_enter Yba.func11, Yba.ntmps11
      go_wp2_with fail
      refine (balances_any _ _ _ _ h1 h3).mono ?_
      rintro e w' ⟨rfl, m, rfl⟩
      go_wp2_with fail
      refine (CP'.out _).mono ?_
      rintro e w' ⟨rfl, hb⟩
      have HB := hid ((Below.drewN (Below.refl _ _) m).trans hb)
      have HQ := hid (HP.out.below HB.out)
      obtain ⟨g1, g3, g6, gs, gl⟩ := HP.out.below HB.out
      clear hb h1 h3 h6 hs
      go_wp2
      go_ret
      exact ⟨rfl, HQ.out.store 2, (HB.out.mono (Nat.le_of_lt HL.out)).setCell (Nat.le_refl _) _, fun k hk hn => (Below.heap_setCell _ _ _ k hn).trans (HB.out.block k hk)⟩
    · have bt : (t == 1) = false := by simp [ht]
      have HT := hid ht
      clear ht
      go_enter Yba.func11, Yba.ntmps11
      go_wp2_with fail
      refine (balances_any _ _ _ _ h1 h3).mono ?_
      rintro e w' ⟨rfl, m, rfl⟩
      go_wp2_with fail
      refine (CP'.out _).mono ?_
      rintro e w' ⟨rfl, hb⟩
      have HB := hid ((Below.drewN (Below.refl _ _) m).trans hb)
      have HQ := hid (HP.out.below HB.out)
      obtain ⟨g1, g3, g6, gs, gl⟩ := HP.out.below HB.out
      clear hb h1 h3 h6 hs
      go_wp2
      go_ret
      have e1 : sideOf 0 t = 1 := by simp [sideOf, HT.out]
      have e2 : tieOf 0 t = 1 := by simp [tieOf, HT.out]
      rw [e1, e2]
      exact ⟨rfl, HQ.out.store 1, (HB.out.mono (Nat.le_of_lt HL.out)).setCell (Nat.le_refl _) _, fun k hk hn => (Below.heap_setCell _ _ _ k hn).trans (HB.out.block k hk)⟩
end Go.Proofs.Ybulkagtg
