import Derived.Test.YbulkagqaDoorProg
import Derived.WalkKit
import Derived.WalkSpells
import Derived.Lib.Walk
namespace Go.Proofs.YbulkagqaDoor
open Go.RowKit

theorem info49 : (Ybad.prog.info? 49).map (fun i => (i.zero, i.size, i.bytes)) = some (some (.int .i32 0), 1, 4) := by kernel_rfl

/-- The days on which a tie from F to T turns. -/
def turnsL (F T : Int) : List Int := (if F = -2147483648 then [] else [F]) ++ (if T = 2147483647 then [] else [T + 1])

theorem turnsL_len (F T : Int) : (turnsL F T).length ≤ 2 := by unfold turnsL; split <;> split <;> simp

theorem below_two {w w1 : World} {v : Value} {o : Obj} {o2 : Obj} (hg : ((w.alloc o).alloc o2).grownBy w1 v.ownBlock) (hv : v.ownBlock = none ∨ ∃ k, v.ownBlock = some k ∧ w.heap.size ≤ k) : Below w.heap.size w w1 := by
  refine (((Below.refl w.heap.size w).alloc (Nat.le_refl _) o).alloc (by simp) o2).grown hg (by simp; omega) ?_
  intro k hk
  rcases hv with h | ⟨k', h, hk'⟩
  · rw [h] at hk; cases hk
  · rw [h] at hk; cases hk; exact hk'

set_option maxHeartbeats 1000000 in
theorem turns_any (s0 s1 s2 sh : Value) (F T L : Int) (w : World) (hT0 : -2147483648 ≤ T) (hT1 : T ≤ 2147483647) :
    Calls Ybad.prog 19 #[.agg #[s0, s1, s2, sh, .int .i32 F, .int .i32 T, .int .i64 L]] w fun e w' => ∃ v, e = .returned v ∧ w'.ownsRow w.heap.size 49 1 v (turnsL F T).length ((turnsL F T).map (Value.int .i32)) ∧ Below w.heap.size w w' := by
  obtain ⟨i0, hi, hz0, hz1, hz2⟩ := info_parts info49
  by_cases hF : F = -2147483648
  · have bF : (F != -2147483648) = false := by simp [hF]
    by_cases hT : T = 2147483647
    · have bT : (T != 2147483647) = false := by simp [hT]
      have HL : Hid (turnsL F T = []) := (by simp [turnsL, hF, hT] : turnsL F T = [])
      clear hF hT
      go_enter Ybad.func19, Ybad.ntmps19
      go_wp2
      go_ret
      exact ⟨_, rfl, by rw [HL.out]; exact World.ownsRow_nil _ _ _ _, (Below.refl _ _).alloc (Nat.le_refl _) _⟩
    · have bT : (T != 2147483647) = true := by simp [hT]
      have HL : Hid (turnsL F T = [T + 1]) := (by simp [turnsL, hF, hT] : turnsL F T = [T + 1])
      have hT2 : T < 2147483647 := by omega
      clear hF hT
      go_enter Ybad.func19, Ybad.ntmps19
      go_wp2_with (first
        | (at_builtin; refine wpList_append_own _ rfl (.tmp 15) (.tmp 19) 39 rfl w.heap.size 49 i0 (.int .i32 0) 1 4 Ybad.underlying39 hi hz0 hz1 hz2 rfl (by decide) _ _ _ rfl (World.ownsRow_nil _ _ _ _) ⟨w.heap.size + 1, 0, none⟩ 1 1 [.int .i32 (T + 1)] rfl rfl ?c1 ?c2 ?c3 ?c4 ?c5 ?_))
      case c1 =>
        intro j u hj
        match j, hj with
        | 0, hj => simp at hj; subst hj; simp [Addr.add]
      case c2 => intro u hu; simp at hu; subst hu; rfl
      case c3 => unfold maxLen; omega
      case c4 => omega
      case c5 => simp; omega
      intro v' w1 hown hg _
      go_wp2
      go_ret
      exact ⟨_, rfl, by rw [HL.out]; exact hown, below_two hg (Or.inl rfl)⟩
  · have bF : (F != -2147483648) = true := by simp [hF]
    by_cases hT : T = 2147483647
    · have bT : (T != 2147483647) = false := by simp [hT]
      have HL : Hid (turnsL F T = [F]) := (by simp [turnsL, hF, hT] : turnsL F T = [F])
      clear hF hT
      go_enter Ybad.func19, Ybad.ntmps19
      go_wp2_with (first
        | (at_builtin; refine wpList_append_own _ rfl (.tmp 7) (.tmp 10) 39 rfl w.heap.size 49 i0 (.int .i32 0) 1 4 Ybad.underlying39 hi hz0 hz1 hz2 rfl (by decide) _ _ _ rfl (World.ownsRow_nil _ _ _ _) ⟨w.heap.size + 1, 0, none⟩ 1 1 [.int .i32 F] rfl rfl ?c1 ?c2 ?c3 ?c4 ?c5 ?_))
      case c1 =>
        intro j u hj
        match j, hj with
        | 0, hj => simp at hj; subst hj; simp [Addr.add]
      case c2 => intro u hu; simp at hu; subst hu; rfl
      case c3 => unfold maxLen; omega
      case c4 => omega
      case c5 => simp; omega
      intro v' w1 hown hg _
      have hb := below_two hg (Or.inl rfl)
      have hc5 : w1.cell? ⟨w.heap.size, 5, none⟩ = some (.int .i32 T) := hg.cell (by simp) (by simp [Value.ownBlock])
      clear hg
      go_wp2
      go_ret
      exact ⟨_, rfl, by rw [HL.out]; exact hown, hb⟩
    · have bT : (T != 2147483647) = true := by simp [hT]
      have HL : Hid (turnsL F T = [F, T + 1]) := (by simp [turnsL, hF, hT] : turnsL F T = [F, T + 1])
      have hT2 : T < 2147483647 := by omega
      clear hF hT
      go_enter Ybad.func19, Ybad.ntmps19
      go_wp2_with (first
        | (at_builtin; refine wpList_append_own _ rfl (.tmp 7) (.tmp 10) 39 rfl w.heap.size 49 i0 (.int .i32 0) 1 4 Ybad.underlying39 hi hz0 hz1 hz2 rfl (by decide) _ _ _ rfl (World.ownsRow_nil _ _ _ _) ⟨w.heap.size + 1, 0, none⟩ 1 1 [.int .i32 F] rfl rfl ?c1 ?c2 ?c3 ?c4 ?c5 ?_))
      case c1 =>
        intro j u hj
        match j, hj with
        | 0, hj => simp at hj; subst hj; simp [Addr.add]
      case c2 => intro u hu; simp at hu; subst hu; rfl
      case c3 => unfold maxLen; omega
      case c4 => omega
      case c5 => simp; omega
      intro v' w1 hown hg _
      have hb := below_two hg (Or.inl rfl)
      have hc5 : w1.cell? ⟨w.heap.size, 5, none⟩ = some (.int .i32 T) := hg.cell (by simp) (by simp [Value.ownBlock])
      have hsz := hb.size
      clear hg
      go_wp2_with (first
        | (at_builtin; refine wpList_append_own _ rfl (.tmp 15) (.tmp 19) 39 rfl w.heap.size 49 i0 (.int .i32 0) 1 4 Ybad.underlying39 hi hz0 hz1 hz2 rfl (by decide) _ _ _ rfl (hown.alloc _) ⟨w1.heap.size, 0, none⟩ 1 1 [.int .i32 (T + 1)] rfl rfl ?c1 ?c2 ?c3 ?c4 ?c5 ?_))
      case c1 =>
        intro j u hj
        match j, hj with
        | 0, hj => simp at hj; subst hj; simp [Addr.add]
      case c2 => intro u hu; simp at hu; subst hu; rfl
      case c3 => unfold maxLen; omega
      case c4 => omega
      case c5 => simp; omega
      intro v2 w2 hown2 hg2 _
      have hb2 : Below w.heap.size w w2 := (hb.alloc hsz _).grown hg2 (by simp; omega) (fun k hk => (hown.lt k hk).1)
      clear hg2 hown hb
      go_wp2
      go_ret
      exact ⟨_, rfl, by rw [HL.out]; exact hown2, hb2⟩

end Go.Proofs.YbulkagqaDoor
