import Derived.Test.YbulkagtgC4
import Derived.OpenShut
namespace Go.Proofs.Ybulkagtg
open Go.RowKit Go.Lib
set_option linter.unusedVariables false

/-- The input's eight cells. -/
def inAgg (hb hs : Bool) (pb ps B Q lot tie : Nat) : Value := .agg #[.bool hb, .bool hs, .int .u32 pb, .int .u32 ps, .int .u16 B, .int .u16 Q, .int .u16 lot, .int .u8 tie]

def canB (hb : Bool) (pb B Q lot : Nat) : Bool := hb && decide (Q * lot < pb * B)
def canS (hs : Bool) (ps B Q lot : Nat) : Bool := hs && decide (ps * B < Q * lot)
def wantOf (cb cs : Bool) (x y : Nat) (t : Int) : Int := if cb = true then (if cs = true then (if y < x then 1 else if x < y then 2 else if t = 1 then 2 else 1) else 1) else if cs = true then 2 else 0
def tiedOf (cb cs : Bool) (x y : Nat) : Bool := cb && cs && decide (x = y)

theorem mulBound (a b : Nat) (ha : a < 8589934592) (hb : b < 65536) : a * b < 18446744073709551616 := by
  have h := Nat.mul_le_mul (Nat.le_of_lt ha) (Nat.le_of_lt hb)
  omega
theorem wrapMul (a b : Nat) (ha : a < 8589934592) (hb : b < 65536) : IntKind.u64.wrap ((a : Int) * (b : Int)) = ((a * b : Nat) : Int) := by
  rw [Mul64.mulN, Mul64.wrapN _ (mulBound a b ha hb)]

set_option maxHeartbeats 2000000 in
theorem model_any (hb hs : Bool) (pb ps B Q lot tie : Nat) (t : Int) (w : World) (bB : B < 65536) (bQ : Q < 65536) (bl : lot < 65536) (b1 : pb < 4294967296) (b2 : ps < 4294967296) :
    Calls Yba.prog 6 #[inAgg hb hs pb ps B Q lot tie, .int .i8 t] w fun e w' => e = .returned (.tuple #[.int .i64 (wantOf (canB hb pb B Q lot) (canS hs ps B Q lot) ((pb + ps) * B) (2 * Q * lot) t), .bool (tiedOf (canB hb pb B Q lot) (canS hs ps B Q lot) ((pb + ps) * B) (2 * Q * lot))]) ∧ Below w.heap.size w w' := by
  have e1 : IntKind.u64.wrap ((Q : Int) * (lot : Int)) = ((Q * lot : Nat) : Int) := wrapMul Q lot (by omega) bl
  have e2 : IntKind.u64.wrap ((pb : Int) * (B : Int)) = ((pb * B : Nat) : Int) := wrapMul pb B (by omega) bB
  have e3 : IntKind.u64.wrap ((ps : Int) * (B : Int)) = ((ps * B : Nat) : Int) := wrapMul ps B (by omega) bB
  have e4 : IntKind.u64.wrap (((pb : Int) + (ps : Int)) * (B : Int)) = (((pb + ps) * B : Nat) : Int) := by
    have h := wrapMul (pb + ps) B (by omega) bB
    rw [show ((pb + ps : Nat) : Int) = (pb : Int) + (ps : Int) by omega] at h
    exact h
  have e5 : IntKind.u64.wrap (2 * (Q : Int) * (lot : Int)) = ((2 * Q * lot : Nat) : Int) := by
    have h := wrapMul (2 * Q) lot (by omega) bl
    rw [show ((2 * Q : Nat) : Int) = 2 * (Q : Int) by omega] at h
    exact h
  unfold inAgg canB canS
  generalize (pb + ps) * B = x4 at *
  generalize 2 * Q * lot = x5 at *
  generalize Q * lot = x1 at *
  generalize pb * B = x2 at *
  generalize ps * B = x3 at *
  go_enter Yba.func6, Yba.ntmps6
  go_wp2
  all_goals go_ret2
  all_goals refine ⟨?_, (Below.refl _ _).alloc (Nat.le_refl _) _⟩
  all_goals clear e1 e2 e3 e4 e5
  all_goals first
    | (simp [*, wantOf, tiedOf]; done)
    | (simp [*, wantOf, tiedOf]; omega)
    | (simp_all [wantOf, tiedOf]; done)
    | (simp_all [wantOf, tiedOf]; omega)
end Go.Proofs.Ybulkagtg
