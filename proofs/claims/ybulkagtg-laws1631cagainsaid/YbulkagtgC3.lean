import Derived.Test.YbulkagtgC2
import Derived.Deep.RegionWith
namespace Go.Proofs.Ybulkagtg
open Go.RowKit Go.Lib
set_option linter.unusedVariables false

set_option maxHeartbeats 1000000 in
theorem balances_any (bp : Nat) (B Q : Int) (w : World) (h1 : w.cell? ⟨bp, 1, none⟩ = some (.int .i64 B)) (h3 : w.cell? ⟨bp, 3, none⟩ = some (.int .i64 Q)) :
    Calls Yba.prog 8 #[.pointer (some ⟨bp, 0, none⟩)] w fun e w' => e = .returned (.tuple #[.int .i64 B, .int .i64 Q]) ∧ ∃ m, w' = w.drewN m := by
  go_enter Yba.func8, Yba.ntmps8
  go_wp2_with fail
  go_big_quiet (first | (go_at_call_of 9 (Value.int IntKind.i8 1); refine Calls.quiet_of (balance1_any _ _)) | (go_at_call_of 9 (Value.int IntKind.i8 2); refine Calls.quiet_of (balance2_any _ _)))
  go_wp2
  go_ret2
  exact ⟨rfl, _, rfl⟩

end Go.Proofs.Ybulkagtg
