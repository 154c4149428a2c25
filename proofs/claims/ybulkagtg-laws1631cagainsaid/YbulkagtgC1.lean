import Derived.Test.YbulkagtgProg
import Derived.WalkKit
import Derived.WalkSpells
import Derived.Lib.Mul64
import Derived.Laws.Bits64b
import Derived.Deep.LoopGhost
namespace Go.Proofs.Ybulkagtg
open Go.RowKit Go.Lib
set_option linter.unusedVariables false

theorem hid {p : Prop} (h : p) : Hid p := h

namespace Mul64
theorem maskN (a : Nat) (ha : a < 18446744073709551616) : bits .and .u64 (a : Int) 4294967295 = ((a % 4294967296 : Nat) : Int) := by
  have h := bits_and_u64_nat a 4294967295 ha (by omega)
  have e : a &&& 4294967295 = a % 4294967296 := Nat.and_two_pow_sub_one_eq_mod a 32
  rw [e] at h
  exact h
theorem divN (a : Nat) : (a : Int) / 4294967296 = ((a / 4294967296 : Nat) : Int) := by omega
theorem mulN (a b : Nat) : (a : Int) * (b : Int) = ((a * b : Nat) : Int) := (Int.natCast_mul a b).symm
theorem addN (a b : Nat) : (a : Int) + (b : Int) = ((a + b : Nat) : Int) := (Int.natCast_add a b).symm
theorem wrapN (a : Nat) (ha : a < 18446744073709551616) : IntKind.u64.wrap (a : Int) = (a : Int) := by rw [IntKind.wrap_u64]; omega
theorem wrapM (a : Nat) : IntKind.u64.wrap (a : Int) = ((a % 18446744073709551616 : Nat) : Int) := by rw [IntKind.wrap_u64]; omega
end Mul64

set_option maxHeartbeats 1000000 in
/-- math/bits.Mul64, after the kit's contract (Derived/Shelf/Bits/Mul64.lean), over this program. -/
theorem mul64_any (x y : Nat) (hx : x < 18446744073709551616) (hy : y < 18446744073709551616) (w : World) :
    Calls Yba.prog 14 #[.int .u64 x, .int .u64 y] w fun e w' => e = .returned (.tuple #[.int .u64 ((x * y / 18446744073709551616 : Nat) : Int), .int .u64 ((x * y % 18446744073709551616 : Nat) : Int)]) ∧ w' = w := by
  obtain ⟨bd, bt, bw, hhi⟩ := Lib.mul64_hi x y hx hy
  have ba := Lib.half_mul_le (a := x / 4294967296) (b := y / 4294967296) (by omega) (by omega)
  have bb := Lib.half_mul_le (a := x / 4294967296) (b := y % 4294967296) (by omega) (by omega)
  have bc := Lib.half_mul_le (a := x % 4294967296) (b := y / 4294967296) (by omega) (by omega)
  have ba' : x / 4294967296 * (y / 4294967296) < 18446744073709551616 := by omega
  have bb' : x / 4294967296 * (y % 4294967296) < 18446744073709551616 := by omega
  have bc' : x % 4294967296 * (y / 4294967296) < 18446744073709551616 := by omega
  have bh1 : x / 4294967296 * (y / 4294967296) + (x / 4294967296 * (y % 4294967296) + x % 4294967296 * (y % 4294967296) / 4294967296) / 4294967296 < 18446744073709551616 := by omega
  have bh : x / 4294967296 * (y / 4294967296) + (x / 4294967296 * (y % 4294967296) + x % 4294967296 * (y % 4294967296) / 4294967296) / 4294967296 + ((x / 4294967296 * (y % 4294967296) + x % 4294967296 * (y % 4294967296) / 4294967296) % 4294967296 + x % 4294967296 * (y / 4294967296)) / 4294967296 < 18446744073709551616 := by omega
  go_enter Yba.func14, Yba.ntmps14
  go_wp2
  simp only [Mul64.maskN x hx, Mul64.maskN y hy, Mul64.divN, Mul64.mulN, Mul64.addN, Mul64.wrapN _ bd, Mul64.wrapN _ bb', Mul64.wrapN _ bt, Mul64.maskN _ bt, Mul64.wrapN _ bc', Mul64.wrapN _ bw, Mul64.wrapN _ ba', Mul64.wrapN _ bh1, Mul64.wrapN _ bh, Mul64.wrapM (x * y)]
  rw [hhi]
  go_ret2
  exact ⟨rfl, rfl⟩

theorem isNaN_any (x : Int) (w : World) : Calls Yba.prog 17 #[.int .u64 x] w fun e w' => e = .returned (.bool false) ∧ w' = w := by
  go_enter Yba.func17, Yba.ntmps17
  go_wp2
  go_ret
  exact ⟨by simp, rfl⟩

/-- The comparison of two numbers, as cmp.Compare gives it. -/
def cmpN (x y : Nat) : Int := if x < y then -1 else if y < x then 1 else 0

set_option maxHeartbeats 1000000 in
theorem compare_any (x y : Nat) (w : World) : Calls Yba.prog 16 #[.int .u64 x, .int .u64 y] w fun e w' => e = .returned (.int .i64 (cmpN x y)) ∧ w' = w := by
  by_cases h1 : x < y
  · have HC : Hid (cmpN x y = -1) := (by simp [cmpN, h1] : cmpN x y = -1)
    go_enter Yba.func16, Yba.ntmps16
    go_wp2_with (go_at_call 17; refine (isNaN_any _ _).mono ?_; rintro e w' ⟨rfl, rfl⟩)
    go_ret
    exact ⟨by rw [HC.out]; rfl, rfl⟩
  · by_cases h2 : y < x
    · have HC : Hid (cmpN x y = 1) := (by simp [cmpN, h1, h2] : cmpN x y = 1)
      go_enter Yba.func16, Yba.ntmps16
      go_wp2_with (go_at_call 17; refine (isNaN_any _ _).mono ?_; rintro e w' ⟨rfl, rfl⟩)
      go_ret
      exact ⟨by rw [HC.out]; rfl, rfl⟩
    · have HC : Hid (cmpN x y = 0) := (by simp [cmpN, h1, h2] : cmpN x y = 0)
      go_enter Yba.func16, Yba.ntmps16
      go_wp2_with (go_at_call 17; refine (isNaN_any _ _).mono ?_; rintro e w' ⟨rfl, rfl⟩)
      go_ret
      exact ⟨by rw [HC.out]; rfl, rfl⟩

/-- cmp.Or of two. -/
def orZ (a b : Int) : Int := if a = 0 then b else a

set_option maxHeartbeats 1000000 in
theorem or_any (g : Nat) (a b : Int) (w : World) (h0 : w.cell? ⟨g, 0, none⟩ = some (.int .i64 a)) (h1 : w.cell? ⟨g, 1, none⟩ = some (.int .i64 b)) :
    Calls Yba.prog 15 #[.slice (some ⟨g, 0, none⟩) 2 2] w fun e w' => e = .returned (.int .i64 (orZ a b)) ∧ w' = w := by
  go_enter Yba.func15, Yba.ntmps15
  go_wp2
  go_loopw [8] (fun s8 wq => ∃ j : Nat, j ≤ 2 ∧ s8 = .int .i64 j ∧ (1 ≤ j → a = 0) ∧ (2 ≤ j → b = 0) ∧ wq = w) (fun s8 _ => 2 - (intOf s8).toNat)
  case atStart => exact ⟨0, by omega, rfl, fun h => absurd h (by omega), fun h => absurd h (by omega), rfl⟩
  case round =>
    obtain ⟨j, hj, rfl, ha, hb, rfl⟩ := hrel
    have hc : j = 0 ∨ j = 1 ∨ j = 2 := by omega
    rcases hc with rfl | rfl | rfl
    · clear ha hb hj
      by_cases h : a = 0
      · have ba : (a != 0) = false := by simp [h]
        have HA := hid h
        clear h
        go_wp2
        go_roundw
        case rel => exact ⟨1, by omega, by go_num, fun _ => HA.out, fun h => absurd h (by omega), trivial⟩
        case measure => simp [intOf]
      · have ba : (a != 0) = true := by simp [h]
        have HO := hid (show orZ a b = a from by simp [orZ, h])
        clear h
        go_wp2
        go_ret
        exact ⟨by rw [HO.out]; rfl, rfl⟩
    · have HA := hid (ha (by omega))
      clear ha hb hj
      by_cases h : b = 0
      · have bb : (b != 0) = false := by simp [h]
        have HB := hid h
        clear h
        go_wp2
        go_roundw
        case rel => exact ⟨2, by omega, by go_num, fun _ => HA.out, fun _ => HB.out, trivial⟩
        case measure => simp [intOf]
      · have bb : (b != 0) = true := by simp [h]
        have HO := hid (show orZ a b = b from by simp [orZ, HA.out])
        clear h
        go_wp2
        go_ret
        exact ⟨by rw [HO.out]; rfl, rfl⟩
    · have HO := hid (show orZ a b = 0 from by simp [orZ, ha (by omega), hb (by omega)])
      clear ha hb hj
      go_wp2
      go_ret
      exact ⟨by rw [HO.out]; rfl, rfl⟩

theorem orZ_cmp (x y : Nat) : orZ (cmpN (x / 18446744073709551616) (y / 18446744073709551616)) (cmpN (x % 18446744073709551616) (y % 18446744073709551616)) = cmpN x y := by
  unfold orZ cmpN
  have hx := Nat.div_add_mod x 18446744073709551616
  have hy := Nat.div_add_mod y 18446744073709551616
  have mx := Nat.mod_lt x (show 0 < 18446744073709551616 by omega)
  have my := Nat.mod_lt y (show 0 < 18446744073709551616 by omega)
  generalize x / 18446744073709551616 = a at *
  generalize y / 18446744073709551616 = b at *
  generalize x % 18446744073709551616 = c at *
  generalize y % 18446744073709551616 = d at *
  subst hx hy
  by_cases h1 : a < b
  · rw [if_pos h1, if_neg (by omega), if_pos (by omega)]
  · rw [if_neg h1]
    by_cases h2 : b < a
    · rw [if_pos h2, if_neg (by omega), if_neg (by omega), if_pos (by omega)]
    · rw [if_neg h2, if_pos rfl]
      have : a = b := by omega
      subst this
      by_cases h3 : c < d
      · rw [if_pos h3, if_pos (by omega)]
      · rw [if_neg h3]
        by_cases h4 : d < c
        · rw [if_pos h4, if_neg (by omega), if_pos (by omega)]
        · rw [if_neg h4, if_neg (by omega), if_neg (by omega)]

set_option maxHeartbeats 1000000 in
theorem compareProducts_any (a b c d : Nat) (w : World) (ha : a < 18446744073709551616) (hb : b < 18446744073709551616) (hc : c < 18446744073709551616) (hd : d < 18446744073709551616) :
    Calls Yba.prog 13 #[.int .u64 a, .int .u64 b, .int .u64 c, .int .u64 d] w fun e w' => e = .returned (.int .i64 (cmpN (a * b) (c * d))) ∧ Below w.heap.size w w' := by
  have m1 := fun w => mul64_any a b ha hb w
  have m2 := fun w => mul64_any c d hc hd w
  have HO := hid (orZ_cmp (a * b) (c * d))
  generalize a * b / 18446744073709551616 = h1 at *
  generalize a * b % 18446744073709551616 = l1 at *
  generalize c * d / 18446744073709551616 = h2 at *
  generalize c * d % 18446744073709551616 = l2 at *
  generalize a * b = x at *
  generalize c * d = y at *
  have M1 := hid m1
  have M2 := hid m2
  clear m1 m2
  go_enter Yba.func13, Yba.ntmps13
  go_wp2_with fail
  refine (M1.out _).mono ?_
  rintro e w' ⟨rfl, rfl⟩
  go_wp2_with fail
  refine (M2.out _).mono ?_
  rintro e w' ⟨rfl, rfl⟩
  go_wp2_with fail
  refine (compare_any _ _ _).mono ?_
  rintro e w' ⟨rfl, rfl⟩
  go_wp2_with fail
  refine (compare_any _ _ _).mono ?_
  rintro e w' ⟨rfl, rfl⟩
  generalize cmpN h1 h2 = z1 at *
  generalize cmpN l1 l2 = z2 at *
  go_wp2_with fail
  refine (or_any _ z1 z2 _ (by simp) (by simp)).mono ?_
  rintro e w2 ⟨rfl, rfl⟩
  go_wp2
  go_ret
  exact ⟨by rw [HO.out]; rfl, (Below.refl _ _).alloc (Nat.le_refl _) _⟩
end Go.Proofs.Ybulkagtg
