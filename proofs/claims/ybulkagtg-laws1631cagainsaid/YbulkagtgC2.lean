import Derived.Test.YbulkagtgC1
import Derived.Deep.QuietTactic
import Derived.BigQuiet
namespace Go.Proofs.Ybulkagtg
open Go.RowKit Go.Lib
set_option linter.unusedVariables false

theorem Below.drewN {B : Nat} {a w : World} (h : Below B a w) (n : Nat) : Below B a (w.drewN n) := ⟨h.os, h.tape, h.output, h.size, h.block⟩

theorem index_any (k : Int) (w : World) (hk : 1 ≤ k) (hk2 : k ≤ 2) : Calls Yba.prog 12 #[.int .i8 k] w fun e w' => e = .returned (.int .i64 (k - 1)) ∧ w' = w := by
  go_enter Yba.func12, Yba.ntmps12
  go_wp2
  go_ret
  exact ⟨by simp, rfl⟩

set_option maxHeartbeats 1000000 in
theorem balance1_any (bp : Nat) (w : World) : Calls Yba.prog 9 #[.pointer (some ⟨bp, 0, none⟩), .int .i8 1] w fun e w' => e = .returned (.pointer (some ⟨bp, 1, none⟩)) ∧ ∃ m, w' = w.drewN m := by
  go_enter Yba.func9, Yba.ntmps9
  go_wp2_with fail
  go_quiet (first | (go_at_call 12; refine Calls.quiet_of_same (index_any _ _ (by decide) (by decide))))
  go_wp2
  go_ret
  exact ⟨rfl, _, rfl⟩

set_option maxHeartbeats 1000000 in
theorem balance2_any (bp : Nat) (w : World) : Calls Yba.prog 9 #[.pointer (some ⟨bp, 0, none⟩), .int .i8 2] w fun e w' => e = .returned (.pointer (some ⟨bp, 3, none⟩)) ∧ ∃ m, w' = w.drewN m := by
  go_enter Yba.func9, Yba.ntmps9
  go_wp2_with fail
  go_quiet (first | (go_at_call 12; refine Calls.quiet_of_same (index_any _ _ (by decide) (by decide))))
  go_wp2
  go_ret
  exact ⟨rfl, _, rfl⟩

end Go.Proofs.Ybulkagtg
