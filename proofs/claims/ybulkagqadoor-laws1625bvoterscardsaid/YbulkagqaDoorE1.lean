import Derived.Test.YbulkagqaDoorDat
import Derived.Test.YbulkagqaDoorW2
namespace Go.Proofs.YbulkagqaDoor
open Go.RowKit Go.Lib
set_option linter.unusedVariables false

/-- The names and the relations of the law's small tables. -/
def nm : Nat → ByteArray
  | 0 => ⟨#[99, 111]⟩
  | 1 => ⟨#[97]⟩
  | 2 => ⟨#[98]⟩
  | _ => ⟨#[99]⟩
def rl : Nat → ByteArray
  | 0 => ⟨#[99, 111, 110, 116, 114, 111, 108, 115]⟩
  | 1 => ⟨#[104, 111, 108, 100, 115]⟩
  | 2 => ⟨#[100, 105, 114, 101, 99, 116, 111, 114]⟩
  | 3 => ⟨#[105, 110, 100, 101, 112, 101, 110, 100, 101, 110, 116, 45, 100, 105, 114, 101, 99, 116, 111, 114]⟩
  | 4 => ⟨#[115, 117, 112, 101, 114, 118, 105, 115, 111, 114]⟩
  | 5 => ⟨#[115, 101, 110, 105, 111, 114, 45, 109, 97, 110, 97, 103, 101, 114]⟩
  | 6 => ⟨#[108, 101, 103, 97, 108, 45, 114, 101, 112, 114, 101, 115, 101, 110, 116, 97, 116, 105, 118, 101]⟩
  | 7 => ⟨#[115, 112, 111, 117, 115, 101]⟩
  | 8 => ⟨#[115, 105, 98, 108, 105, 110, 103]⟩
  | 9 => ⟨#[112, 97, 114, 101, 110, 116]⟩
  | _ => ⟨#[99, 111, 110, 99, 101, 114, 116]⟩

theorem name_any (x : Nat) (w : World) (hx : x < 256) : Calls Ybad.prog 11 #[.int .u8 x] w fun e w' => e = .returned (.string (nm (x % 4))) ∧ w' = w := by
  have hi : (x : Int).tmod 4 = ((x % 4 : Nat) : Int) := rfl
  have hr : x % 4 = 0 ∨ x % 4 = 1 ∨ x % 4 = 2 ∨ x % 4 = 3 := by omega
  rcases hr with hr | hr | hr | hr
  all_goals
    rw [hr] at hi
    rw [hr]
    clear hr
    go_enter Ybad.func11, Ybad.ntmps11
    go_wp2
    go_ret
    exact ⟨rfl, rfl⟩

theorem idx_any (n : Nat) (w : World) (hn : n < 4) : Calls Ybad.prog 12 #[.string (nm n)] w fun e w' => e = .returned (.int .i64 n) ∧ w' = w := by
  have hr : n = 0 ∨ n = 1 ∨ n = 2 ∨ n = 3 := by omega
  clear hn
  rcases hr with rfl | rfl | rfl | rfl
  all_goals
    simp only [nm]
    go_enter Ybad.func12, Ybad.ntmps12
    go_wp2
    go_ret
    exact ⟨rfl, rfl⟩

theorem rel_any (r : Nat) (w : World) (hn : r < 11) : Calls Ybad.prog 13 #[.int .i64 r] w fun e w' => e = .returned (.string (rl r)) ∧ w' = w := by
  have hr : r = 0 ∨ r = 1 ∨ r = 2 ∨ r = 3 ∨ r = 4 ∨ r = 5 ∨ r = 6 ∨ r = 7 ∨ r = 8 ∨ r = 9 ∨ r = 10 := by omega
  clear hn
  rcases hr with rfl | rfl | rfl | rfl | rfl | rfl | rfl | rfl | rfl | rfl | rfl
  all_goals
    go_enter Ybad.func13, Ybad.ntmps13
    go_wp2
    go_ret
    exact ⟨rfl, rfl⟩

/-- The tie turns on d by its first day; by the day after its last. -/
def fromB (F d : Int) : Bool := decide (F ≠ -2147483648) && decide (F = d)
def toB (T d : Int) : Bool := decide (T ≠ 2147483647) && decide (T + 1 = d)

theorem from_any (s0 s1 s2 sh : Value) (F T L d : Int) (w : World) :
    Calls Ybad.prog 8 #[.agg #[s0, s1, s2, sh, .int .i32 F, .int .i32 T, .int .i64 L], .int .i32 d] w fun e w' => e = .returned (.bool (fromB F d)) ∧ Below w.heap.size w w' := by
  by_cases h : F = -2147483648
  · have hb : (F != -2147483648) = false := by simp [h]
    have hv := hid (show fromB F d = false from by simp [fromB, h])
    clear h
    go_enter Ybad.func8, Ybad.ntmps8
    go_wp2
    go_ret
    exact ⟨by rw [hv.out]; rfl, (Below.refl _ _).alloc (Nat.le_refl _) _⟩
  · have hb : (F != -2147483648) = true := by simp [h]
    have hv := hid (show fromB F d = decide (F = d) from by simp [fromB, h])
    clear h
    go_enter Ybad.func8, Ybad.ntmps8
    go_wp2
    go_ret
    exact ⟨by rw [hv.out]; simp; rfl, (Below.refl _ _).alloc (Nat.le_refl _) _⟩

theorem to_any (s0 s1 s2 sh : Value) (F T L d : Int) (w : World) (h0 : -2147483648 ≤ T) (h1 : T ≤ 2147483647) :
    Calls Ybad.prog 9 #[.agg #[s0, s1, s2, sh, .int .i32 F, .int .i32 T, .int .i64 L], .int .i32 d] w fun e w' => e = .returned (.bool (toB T d)) ∧ Below w.heap.size w w' := by
  by_cases h : T = 2147483647
  · have hb : (T != 2147483647) = false := by simp [h]
    have hv := hid (show toB T d = false from by simp [toB, h])
    clear h
    go_enter Ybad.func9, Ybad.ntmps9
    go_wp2
    go_ret
    exact ⟨by rw [hv.out]; rfl, (Below.refl _ _).alloc (Nat.le_refl _) _⟩
  · have hb : (T != 2147483647) = true := by simp [h]
    have hv := hid (show toB T d = decide (T + 1 = d) from by simp [toB, h])
    have h2 : T < 2147483647 := by omega
    clear h
    go_enter Ybad.func9, Ybad.ntmps9
    go_wp2
    go_ret
    exact ⟨by rw [hv.out]; simp; rfl, (Below.refl _ _).alloc (Nat.le_refl _) _⟩

def upd {α : Type} (R : Nat → α) (j : Nat) (x : α) : Nat → α := fun i => if i = j then x else R i
theorem upd_same {α : Type} (R : Nat → α) (j : Nat) (x : α) : upd R j x j = x := by simp [upd]
theorem upd_other {α : Type} (R : Nat → α) (i j : Nat) (x : α) (h : i ≠ j) : upd R j x i = R i := by simp [upd, h]
end Go.Proofs.YbulkagqaDoor
