import Derived.Test.YbulkagtgC5f
import Derived.Test.YbulkagtgC5m
import Derived.Test.YbulkagtgC5z
import Derived.Test.YbulkagtgC5p
import Derived.Test.YbulkagtgC6
namespace Go.Proofs.Ybulkagtg
open Go.RowKit Go.Lib
set_option linter.unusedVariables false

theorem cmp_lt {x y : Nat} (h : x < y) : cmpN x y = -1 := by simp [cmpN, h]
theorem cmp_gt {x y : Nat} (h : y < x) : cmpN x y = 1 := by
  have : ¬ x < y := by omega
  simp [cmpN, h, this]
theorem cmp_eq {x y : Nat} (h : x = y) : cmpN x y = 0 := by subst h; simp [cmpN]

/-- What the call of nextToSwap leaves. -/
def NextLeaves (bp B Q : Nat) (t' : Int) (p : Option Addr) (w : World) (e : Ending) (w' : World) : Prop :=
  e = .returned (.pointer p) ∧ PoolAt w' bp B Q t' ∧ Below bp w w' ∧ (∀ k, k < w.heap.size → k ≠ bp → w'.heap[k]? = w.heap[k]?)

def swapT (t : Int) : Int := if t = 1 then 2 else 1

theorem want_both (x y : Nat) (t : Int) : wantOf true true x y t = sideOf (cmpN x y) t := by
  unfold wantOf sideOf
  rcases Nat.lt_trichotomy x y with h | h | h
  · have : ¬ y < x := by omega
    simp [cmp_lt h, h, this]
  · subst h; simp [cmp_eq rfl]
  · simp [cmp_gt h, h]
theorem tie_both (x y : Nat) (t : Int) : (if tiedOf true true x y = true then swapT t else t) = tieOf (cmpN x y) t := by
  unfold tiedOf swapT tieOf
  rcases Nat.lt_trichotomy x y with h | h | h
  · have : ¬ x = y := by omega
    simp [cmp_lt h, this]
  · subst h; simp [cmp_eq rfl]
  · have : ¬ x = y := by omega
    simp [cmp_gt h, this]
theorem side_cases (c t : Int) : sideOf c t = 2 ∨ ((sideOf c t == 2) = false ∧ sideOf c t = 1) := by
  unfold sideOf
  split
  · exact Or.inr ⟨rfl, rfl⟩
  · split
    · exact Or.inl rfl
    · split
      · exact Or.inl rfl
      · exact Or.inr ⟨rfl, rfl⟩

theorem next_any (bm bp bl sl bo so B Q pb ps lot : Nat) (hb hs : Bool) (t : Int) (w : World)
    (hm : MktAt w bm bp bl sl bo so pb ps lot (if hb = true then some ⟨bl, 0, none⟩ else none) (if hs = true then some ⟨sl, 0, none⟩ else none)) (hp : PoolAt w bp B Q t)
    (bB : B < 65536) (bQ : Q < 65536) (bL : lot < 65536) (b1 : pb < 4294967296) (b2 : ps < 4294967296) :
    Calls Yba.prog 7 #[.pointer (some ⟨bm, 0, none⟩)] w
      (NextLeaves bp B Q (if tiedOf (canB hb pb B Q lot) (canS hs ps B Q lot) ((pb + ps) * B) (2 * Q * lot) = true then swapT t else t)
        (ptrOf bo so (wantOf (canB hb pb B Q lot) (canS hs ps B Q lot) ((pb + ps) * B) (2 * Q * lot) t)) w) := by
  have K1 := fun (c : Int) (h : cmpN (Q * lot) (pb * B) = c) => hid (show ∀ W : World, PoolAt W bp B Q t → Calls Yba.prog 10 #[.pointer (some ⟨bp, 0, none⟩), .int .i64 pb, .int .i64 lot] W fun e w' => e = .returned (.int .i64 c) ∧ Below W.heap.size W w' from fun W hW => h ▸ comparePrice_any bp B Q pb lot W hW.base hW.quote bB bQ bL b1)
  have K2 := fun (c : Int) (h : cmpN (Q * lot) (ps * B) = c) => hid (show ∀ W : World, PoolAt W bp B Q t → Calls Yba.prog 10 #[.pointer (some ⟨bp, 0, none⟩), .int .i64 ps, .int .i64 lot] W fun e w' => e = .returned (.int .i64 c) ∧ Below W.heap.size W w' from fun W hW => h ▸ comparePrice_any bp B Q ps lot W hW.base hW.quote bB bQ bL b2)
  have K3 := hid (show ∀ W : World, PoolAt W bp B Q t → Calls Yba.prog 11 #[.pointer (some ⟨bp, 0, none⟩), .int .i64 pb, .int .i64 ps, .int .i64 lot] W fun e w' => e = .returned (.int .i8 (sideOf (cmpN ((pb + ps) * B) (2 * Q * lot)) t)) ∧ PoolAt w' bp B Q (tieOf (cmpN ((pb + ps) * B) (2 * Q * lot)) t) ∧ Below bp W w' ∧ (∀ k, k < W.heap.size → k ≠ bp → w'.heap[k]? = W.heap[k]?) from fun W hW => furtherSide_any bp B Q pb ps lot t W hW bB bQ bL b1 b2)
  cases hb with
  | false =>
    have ec : canB false pb B Q lot = false := rfl
    cases hs with
    | false =>
      rw [ec, show canS false ps B Q lot = false from rfl]
      exact next_f_f bm bp bl sl bo so B Q pb ps lot 0 t t w hm hp
    | true =>
      rcases Nat.lt_trichotomy (Q * lot) (ps * B) with g | g | g
      · have c2 := cmp_lt g
        rw [ec, show canS true ps B Q lot = false from by simp [canS]; omega]
        exact next_f_m bm bp bl sl bo so B Q pb ps lot 0 t t w hm hp (K2 _ c2)
      · have c2 := cmp_eq g
        rw [ec, show canS true ps B Q lot = false from by simp [canS]; omega]
        exact next_f_z bm bp bl sl bo so B Q pb ps lot 0 t t w hm hp (K2 _ c2)
      · have c2 := cmp_gt g
        rw [ec, show canS true ps B Q lot = true from by simp [canS]; omega]
        exact next_f_p bm bp bl sl bo so B Q pb ps lot 0 t t w hm hp (K2 _ c2)
  | true =>
    rcases Nat.lt_trichotomy (Q * lot) (pb * B) with f | f | f
    · have c1 := cmp_lt f
      have ec : canB true pb B Q lot = true := by simp [canB]; omega
      cases hs with
      | false =>
        rw [ec, show canS false ps B Q lot = false from rfl]
        exact next_m_f bm bp bl sl bo so B Q pb ps lot 0 t t w hm hp (K1 _ c1)
      | true =>
        rcases Nat.lt_trichotomy (Q * lot) (ps * B) with g | g | g
        · have c2 := cmp_lt g
          rw [ec, show canS true ps B Q lot = false from by simp [canS]; omega]
          exact next_m_m bm bp bl sl bo so B Q pb ps lot 0 t t w hm hp (K1 _ c1) (K2 _ c2)
        · have c2 := cmp_eq g
          rw [ec, show canS true ps B Q lot = false from by simp [canS]; omega]
          exact next_m_z bm bp bl sl bo so B Q pb ps lot 0 t t w hm hp (K1 _ c1) (K2 _ c2)
        · have c2 := cmp_gt g
          rw [ec, show canS true ps B Q lot = true from by simp [canS]; omega]
          rw [want_both, tie_both]
          rcases side_cases (cmpN ((pb + ps) * B) (2 * Q * lot)) t with d | ⟨d, d'⟩
          · have hh := next_m_p_s bm bp bl sl bo so B Q pb ps lot _ t _ w d hm hp (K1 _ c1) (K2 _ c2) K3
            rw [d]
            exact hh
          · have hh := next_m_p_b bm bp bl sl bo so B Q pb ps lot _ t _ w d hm hp (K1 _ c1) (K2 _ c2) K3
            rw [d']
            exact hh
    · have c1 := cmp_eq f
      have ec : canB true pb B Q lot = false := by simp [canB]; omega
      cases hs with
      | false =>
        rw [ec, show canS false ps B Q lot = false from rfl]
        exact next_z_f bm bp bl sl bo so B Q pb ps lot 0 t t w hm hp (K1 _ c1)
      | true =>
        rcases Nat.lt_trichotomy (Q * lot) (ps * B) with g | g | g
        · have c2 := cmp_lt g
          rw [ec, show canS true ps B Q lot = false from by simp [canS]; omega]
          exact next_z_m bm bp bl sl bo so B Q pb ps lot 0 t t w hm hp (K1 _ c1) (K2 _ c2)
        · have c2 := cmp_eq g
          rw [ec, show canS true ps B Q lot = false from by simp [canS]; omega]
          exact next_z_z bm bp bl sl bo so B Q pb ps lot 0 t t w hm hp (K1 _ c1) (K2 _ c2)
        · have c2 := cmp_gt g
          rw [ec, show canS true ps B Q lot = true from by simp [canS]; omega]
          exact next_z_p bm bp bl sl bo so B Q pb ps lot 0 t t w hm hp (K1 _ c1) (K2 _ c2)
    · have c1 := cmp_gt f
      have ec : canB true pb B Q lot = false := by simp [canB]; omega
      cases hs with
      | false =>
        rw [ec, show canS false ps B Q lot = false from rfl]
        exact next_p_f bm bp bl sl bo so B Q pb ps lot 0 t t w hm hp (K1 _ c1)
      | true =>
        rcases Nat.lt_trichotomy (Q * lot) (ps * B) with g | g | g
        · have c2 := cmp_lt g
          rw [ec, show canS true ps B Q lot = false from by simp [canS]; omega]
          exact next_p_m bm bp bl sl bo so B Q pb ps lot 0 t t w hm hp (K1 _ c1) (K2 _ c2)
        · have c2 := cmp_eq g
          rw [ec, show canS true ps B Q lot = false from by simp [canS]; omega]
          exact next_p_z bm bp bl sl bo so B Q pb ps lot 0 t t w hm hp (K1 _ c1) (K2 _ c2)
        · have c2 := cmp_gt g
          rw [ec, show canS true ps B Q lot = true from by simp [canS]; omega]
          exact next_p_p bm bp bl sl bo so B Q pb ps lot 0 t t w hm hp (K1 _ c1) (K2 _ c2)
end Go.Proofs.Ybulkagtg
