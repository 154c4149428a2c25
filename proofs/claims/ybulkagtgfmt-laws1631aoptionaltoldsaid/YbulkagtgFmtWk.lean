import Derived.Test.YbulkagtgFmtFmt
import Derived.WalkKit
import Derived.WalkSpells
import Derived.Laws.StructEq
namespace Go.Proofs.YbulkagtgFmt
open Go.RowKit Go.Extern.Stop Go.Stop Go.Extern
set_option linter.unusedVariables false

set_option maxHeartbeats 1000000 in
theorem notPos_yes (nm : ByteArray) (v : Int) (w : World) (hv : 0 < v) :
    Calls Ybaf.prog 5 #[.string nm, .int .i64 v] w fun e w' => e = .returned (.agg #[.int .i8 0, .string ⟨#[]⟩]) ∧ Below w.heap.size w w' := by
  go_enter Ybaf.func5, Ybaf.ntmps5
  go_wp2
  exact bodyPost_ret (v := .agg #[.int .i8 0, .string ⟨#[]⟩]) (by simp [results, Ybaf.results5, go_sem]) rfl ⟨rfl, (Below.refl _ _).alloc (Nat.le_refl _) _⟩

set_option maxHeartbeats 1000000 in
theorem notPos_no (F : Interp) (nm : ByteArray) (v : Int) (w : World) (hF : F.answers w.tape) (hv : ¬ 0 < v) :
    Calls Ybaf.prog 5 #[.string nm, .int .i64 v] w fun e w' => (∃ s, e = .returned (.agg #[.int .i8 1, .string s])) ∧ Below w.heap.size w w' := by
  have hF' := answers_open hF
  go_enter Ybaf.func5, Ybaf.ntmps5
  go_wp2
  generalize FmtStop.textOf _ = s
  exact bodyPost_ret (v := .agg #[.int .i8 1, .string s]) (by simp [results, Ybaf.results5, go_sem]) rfl ⟨⟨s, rfl⟩, (((Below.refl _ _).alloc (Nat.le_refl _) _).alloc (by simp) _).drew⟩

set_option maxHeartbeats 1000000 in
theorem exact_all (F : Interp) (nm : ByteArray) (v : Int) (w : World) (hF : F.answers w.tape) :
    Calls Ybaf.prog 3 #[.string nm, .int .i64 v] w fun e w' => e = .returned (.bool true) ∧ Below w.heap.size w w' := by
  by_cases hv : 0 < v
  · go_enter Ybaf.func3, Ybaf.ntmps3
    go_wp2_with (go_at_call 5; refine (notPos_yes _ _ _ hv).mono ?_; rintro e w1 ⟨rfl, hb1⟩)
    go_ret
    exact ⟨rfl, hb1.alloc hb1.size _⟩
  · go_enter Ybaf.func3, Ybaf.ntmps3
    go_wp2_with (go_at_call 5; refine (notPos_no F _ _ _ hF hv).mono ?_; rintro e w1 ⟨⟨s, rfl⟩, hb1⟩)
    go_ret
    exact ⟨rfl, hb1.alloc hb1.size _⟩

set_option maxHeartbeats 1000000 in
theorem opt_zero (nm : ByteArray) (v : Int) (w : World) (hv : (v == 0) = true) :
    Calls Ybaf.prog 6 #[.string nm, .int .i64 v] w fun e w' => e = .returned (.agg #[.int .i8 0, .string ⟨#[]⟩]) ∧ Below w.heap.size w w' := by
  go_enter Ybaf.func6, Ybaf.ntmps6
  go_wp2
  exact bodyPost_ret (v := .agg #[.int .i8 0, .string ⟨#[]⟩]) (by simp [results, Ybaf.results6, go_sem]) rfl ⟨rfl, (Below.refl _ _).alloc (Nat.le_refl _) _⟩

theorem cell_res {w w1 : World} {c0 c1 : Value} (hb : Below (w.alloc (.cells #[c0, c1] 25)).heap.size (w.alloc (.cells #[c0, c1] 25)) w1) :
    w1.cell? ⟨w.heap.size, 0, none⟩ = some c0 ∧ w1.cell? ⟨w.heap.size, 1, none⟩ = some c1 ∧ w1.frozen? ⟨w.heap.size, 0, none⟩ = false ∧ w1.frozen? ⟨w.heap.size, 1, none⟩ = false :=
  ⟨(hb.cell (p := ⟨w.heap.size, 0, none⟩) (by simp)).trans (by simp), (hb.cell (p := ⟨w.heap.size, 1, none⟩) (by simp)).trans (by simp), (hb.frozen (p := ⟨w.heap.size, 0, none⟩) (by simp)).trans (by simp), (hb.frozen (p := ⟨w.heap.size, 1, none⟩) (by simp)).trans (by simp)⟩

set_option maxHeartbeats 1000000 in
theorem opt_yes (nm : ByteArray) (v : Int) (w : World) (hv : 0 < v) :
    Calls Ybaf.prog 6 #[.string nm, .int .i64 v] w fun e w' => e = .returned (.agg #[.int .i8 0, .string ⟨#[]⟩]) ∧ Below w.heap.size w w' := by
  have hz : (v == 0) = false := by rw [beq_eq_false_iff_ne]; omega
  go_enter Ybaf.func6, Ybaf.ntmps6
  go_wp2_with (go_at_call 5; refine (notPos_yes _ _ _ hv).mono ?_; rintro e w1 ⟨rfl, hb1⟩; obtain ⟨q0, q1, q2, q3⟩ := cell_res hb1; have hsz : w.heap.size < w1.heap.size := by have := hb1.size; simp at this; omega)
  refine bodyPost_ret (v := .agg #[.int .i8 0, .string ⟨#[]⟩]) (by simp [results, Ybaf.results6, go_sem, q0, q1]) rfl ⟨rfl, ?_⟩
  exact ((((Below.refl _ w).alloc (Nat.le_refl _) _).trans (hb1.mono (by simp))).setCell (Nat.le_refl _) _).setCell (Nat.le_refl _) _

set_option maxHeartbeats 1000000 in
theorem opt_no (F : Interp) (nm : ByteArray) (v : Int) (w : World) (hF : F.answers w.tape) (hv : v < 0) :
    Calls Ybaf.prog 6 #[.string nm, .int .i64 v] w fun e w' => (∃ s, e = .returned (.agg #[.int .i8 1, .string s])) ∧ Below w.heap.size w w' := by
  have hz : (v == 0) = false := by rw [beq_eq_false_iff_ne]; omega
  go_enter Ybaf.func6, Ybaf.ntmps6
  go_wp2_with (go_at_call 5; refine (notPos_no F _ _ _ (by exact hF) (by omega)).mono ?_; rintro e w1 ⟨⟨s, rfl⟩, hb1⟩; obtain ⟨q0, q1, q2, q3⟩ := cell_res hb1; have hsz : w.heap.size < w1.heap.size := by have := hb1.size; simp at this; omega)
  refine bodyPost_ret (v := .agg #[.int .i8 1, .string s]) (by simp [results, Ybaf.results6, go_sem, q0, q1]) rfl ⟨⟨s, rfl⟩, ?_⟩
  exact ((((Below.refl _ w).alloc (Nat.le_refl _) _).trans (hb1.mono (by simp))).setCell (Nat.le_refl _) _).setCell (Nat.le_refl _) _

set_option maxHeartbeats 2000000 in
theorem optional_all (F : Interp) (nm : ByteArray) (v : Int) (w : World) (hF : F.answers w.tape) :
    Calls Ybaf.prog 4 #[.string nm, .int .i64 v] w fun e w' => e = .returned (.bool true) ∧ Below w.heap.size w w' := by
  by_cases hz : (v == 0) = true
  · go_enter Ybaf.func4, Ybaf.ntmps4
    go_wp2_with (go_at_call 6; refine (opt_zero _ _ _ hz).mono ?_; rintro e w1 ⟨rfl, hb1⟩)
    go_ret
    exact ⟨rfl, hb1.alloc hb1.size _⟩
  · have hz0 : (v == 0) = false := by simpa using hz
    have hne : v ≠ 0 := by simpa using hz
    clear hz
    by_cases hv : 0 < v
    · clear hne
      go_enter Ybaf.func4, Ybaf.ntmps4
      go_wp2_with (first
        | (go_at_call 6; refine (opt_yes _ _ _ hv).mono ?_; rintro e w1 ⟨rfl, hb1⟩; have hs1 := hb1.size)
        | (go_at_call 5; refine (notPos_yes _ _ _ hv).mono ?_; rintro e w2 ⟨rfl, hb2⟩; obtain ⟨q0, q1, q2, q3⟩ := cell_res hb2; have hsz : w1.heap.size < w2.heap.size := by have := hb2.size; simp at this; omega))
      go_ret
      exact ⟨rfl, ((hb1.alloc hs1 _).trans (hb2.mono (by simp; omega))).alloc (by omega) _⟩
    · have hv' : v < 0 := by omega
      clear hne
      go_enter Ybaf.func4, Ybaf.ntmps4
      go_wp2_with (first
        | (go_at_call 6; refine (opt_no F _ _ _ hF hv').mono ?_; rintro e w1 ⟨⟨s, rfl⟩, hb1⟩; have hs1 := hb1.size; have hF1 : F.answers w1.tape := by rw [hb1.tape]; exact hF)
        | (go_at_call 5; refine (notPos_no F _ _ _ (by exact hF1) (by omega)).mono ?_; rintro e w2 ⟨⟨s2, rfl⟩, hb2⟩; obtain ⟨q0, q1, q2, q3⟩ := cell_res hb2; have hsz : w1.heap.size < w2.heap.size := by have := hb2.size; simp at this; omega))
      go_ret
      exact ⟨rfl, ((hb1.alloc hs1 _).trans (hb2.mono (by simp; omega))).alloc (by omega) _⟩
end Go.Proofs.YbulkagtgFmt
