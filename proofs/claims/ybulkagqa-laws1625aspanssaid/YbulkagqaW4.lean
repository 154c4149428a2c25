import Derived.Test.YbulkagqaDat
namespace Go.Proofs.Ybulkagqa
open Go.RowKit
set_option linter.unusedVariables false

theorem info28 : (Yba.prog.info? 28).map (fun i => (i.zero, i.size, i.bytes)) = some (some (.agg #[.string ByteArray.empty, .string ByteArray.empty, .string ByteArray.empty, .pointer none, .int .i32 0, .int .i32 0, .int .i64 0]), 7, 72) := by kernel_rfl

set_option maxHeartbeats 1000000 in
theorem inForce_any (s0 s1 s2 sh : Value) (F T L d : Int) (w : World) :
    Calls Yba.prog 15 #[.agg #[s0, s1, s2, sh, .int .i32 F, .int .i32 T, .int .i64 L], .int .i32 d] w fun e w' => e = .returned (.bool (inF F T d)) ∧ w' = w.alloc (.cells #[s0, s1, s2, sh, .int .i32 F, .int .i32 T, .int .i64 L] 28) := by
  by_cases h1 : F ≤ d
  · by_cases h2 : d ≤ T
    · have HI : Hid (inF F T d = true) := (by simp [inF, h1, h2] : inF F T d = true)
      go_enter Yba.func15, Yba.ntmps15
      go_wp2
      go_ret
      exact ⟨by rw [HI.out]; rfl, rfl⟩
    · have h2' : decide (d ≤ T) = false := by simpa using h2
      have HI : Hid (inF F T d = false) := (by simp [inF, h2] : inF F T d = false)
      go_enter Yba.func15, Yba.ntmps15
      go_wp2
      go_ret
      exact ⟨by rw [HI.out]; rfl, rfl⟩
  · have h1' : decide (F ≤ d) = false := by simpa using h1
    have HI : Hid (inF F T d = false) := (by simp [inF, h1] : inF F T d = false)
    go_enter Yba.func15, Yba.ntmps15
    go_wp2
    go_ret
    exact ⟨by rw [HI.out]; rfl, rfl⟩

set_option maxHeartbeats 2000000 in
theorem tiesOn_any (a : Option Addr) (cap : Nat) (ts : List TieD) (d : Int) (w : World) (hn : ts.length ≤ 4096) (hT : TiesAt w (.slice a ts.length cap) ts) :
    Calls Yba.prog 10 #[.slice a ts.length cap, .int .i32 d] w fun e w' => ∃ v, e = .returned v ∧ w'.ownsRow w.heap.size 28 7 v (onL d ts).length ((onL d ts).flatMap TieD.cells) ∧ v ≠ .slice none 0 0 ∧ Below w.heap.size w w' := by
  obtain ⟨i0, hi, hz0, hz1, hz2⟩ := info_parts info28
  have HT : Hid (∀ j t, ts[j]? = some t → ∃ g, a = some ⟨g, 0, none⟩ ∧ TieAt w g (j * 7) t) := by
    obtain ⟨a', cap', e, h⟩ := hT
    injection e with e1 e2 e3
    subst e1
    exact h
  clear hT
  generalize hN : ts.length = n at *
  have HN : Hid (ts.length = n) := hN
  clear hN
  go_enter Yba.func10, Yba.ntmps10
  go_wp2
  go_loopw [5, 13] (fun vn vi wr => ∃ k : Nat, k ≤ n ∧ vi = .int .i64 k ∧ vn = .int .i64 ((onL d (ts.take k)).length : Nat) ∧ Below w.heap.size w wr) (fun _ vi _ => n - (intOf vi).toNat)
  case atStart => exact ⟨0, Nat.zero_le _, rfl, rfl, Below.refl _ _⟩
  case round =>
    obtain ⟨k, hk, rfl, rfl, hb⟩ := hrel
    have hle := onL_le d (ts.take k)
    have hle2 : (ts.take k).length ≤ k := List.length_take_le _ _
    by_cases hlt : k < n
    · obtain ⟨t, ht⟩ : ∃ t, ts[k]? = some t := ⟨_, List.getElem?_eq_getElem (by have := HN.out; omega)⟩
      obtain ⟨g, rfl, hA0⟩ := HT.out k t ht
      have hgl : g < w.heap.size := World.block_lt_of_cell? w ⟨g, k * 7, none⟩ hA0.c0
      have hA : TieAt wr g (k * 7) t := hA0.kept (hb.block g hgl)
      have HS : Hid (onL d (ts.take (k + 1)) = onL d (ts.take k) ++ (if inF t.F t.T d then [t] else [])) := onL_snoc d ts k t ht
      have HA : Hid (ts[k]? = some t) := ht
      obtain ⟨c0, c1, c2, c3, c4, c5, c6⟩ := hA
      have hsz := hb.size
      clear ht hA0
      have HL : Hid ((onL d (ts.take (k + 1))).length = (onL d (ts.take k)).length + (if inF t.F t.T d then 1 else 0)) := by
        show _ = _
        rw [HS.out, List.length_append]
        by_cases e : inF t.F t.T d <;> simp [e]
      generalize hm : List.length (onL d (ts.take k)) = m at *
      clear hm
      by_cases hB : inF t.F t.T d = true
      · go_wp2_with (go_at_call 15; refine (inForce_any _ _ _ _ _ _ _ _ _).mono ?_; rintro e w' ⟨rfl, rfl⟩)
        go_roundw
        case rel => exact ⟨k + 1, by omega, by go_num, by rw [HL.out, hB]; go_num, (hb.alloc hsz _).alloc (by simp; omega) _⟩
        case measure => simp [intOf]; omega
      · have hB' : inF t.F t.T d = false := by simpa using hB
        clear hB
        go_wp2_with (go_at_call 15; refine (inForce_any _ _ _ _ _ _ _ _ _).mono ?_; rintro e w' ⟨rfl, rfl⟩)
        go_roundw
        case rel => exact ⟨k + 1, by omega, by go_num, by rw [HL.out, hB']; go_num, (hb.alloc hsz _).alloc (by simp; omega) _⟩
        case measure => simp [intOf]; omega
    · have hkn : k = n := by omega
      subst hkn
      have hsz := hb.size
      generalize hm : List.length (onL d (ts.take k)) = m at *
      have hmk : m ≤ 4096 := by omega
      clear hle hle2 hm
      go_wp2_with (first
        | (at_make; refine wpList_make_own _ rfl _ _ 23 rfl w.heap.size 28 i0 _ 7 Yba.underlying23 hi hz0 hz1 .i64 .i64 _ m rfl rfl rfl (by rw [hz2]; omega) (by unfold maxLen; omega) hsz ?_; intro w0 hown0 hg0))
      have hb0 : Below w.heap.size w w0 := hb.grown hg0 hsz (fun j hj => by cases hj)
      have hsz0 : wr.heap.size ≤ w0.heap.size := hg0.size
      clear hb hg0
      go_loopw [8, 27] (fun vo vi wr => ∃ k2 : Nat, k2 ≤ k ∧ vi = .int .i64 k2 ∧ wr.ownsRow w.heap.size 28 7 vo (onL d (ts.take k2)).length ((onL d (ts.take k2)).flatMap TieD.cells) ∧ vo ≠ .slice none 0 0 ∧ Below w.heap.size w wr) (fun _ vi _ => k - (intOf vi).toNat)
      case atStart => exact ⟨0, Nat.zero_le _, rfl, hown0, by simp, hb0⟩
      case round =>
        obtain ⟨k2, hk2, rfl, hown, hnn, hb⟩ := hrel
        have hle := onL_le d (ts.take k2)
        have hle2 : (ts.take k2).length ≤ k2 := List.length_take_le _ _
        have hsz2 := hb.size
        by_cases hlt : k2 < k
        · obtain ⟨t, ht⟩ : ∃ t, ts[k2]? = some t := ⟨_, List.getElem?_eq_getElem (by have := HN.out; omega)⟩
          obtain ⟨g, rfl, hA0⟩ := HT.out k2 t ht
          have hgl : g < w.heap.size := World.block_lt_of_cell? w ⟨g, k2 * 7, none⟩ hA0.c0
          have hA : TieAt wr g (k2 * 7) t := hA0.kept (hb.block g hgl)
          have HS : Hid (onL d (ts.take (k2 + 1)) = onL d (ts.take k2) ++ (if inF t.F t.T d then [t] else [])) := onL_snoc d ts k2 t ht
          obtain ⟨c0, c1, c2, c3, c4, c5, c6⟩ := hA
          clear ht hA0
          by_cases hB : inF t.F t.T d = true
          · generalize hl : onL d (ts.take k2) = l at *
            have HL : Hid (onL d (ts.take k2) = l) := hl
            clear hl
            go_wp2_with (first
              | (go_at_call 15; refine (inForce_any _ _ _ _ _ _ _ _ _).mono ?_; rintro e w' ⟨rfl, rfl⟩)
              | (at_builtin; refine wpList_append_own _ rfl (.tmp 34) (.tmp 36) 23 rfl w.heap.size 28 i0 _ 7 72 Yba.underlying23 hi hz0 hz1 hz2 rfl (by decide) _ _ _ rfl (((hown.alloc _).alloc _).alloc _) ⟨wr.heap.size + 1 + 1, 0, none⟩ 1 1 t.cells rfl rfl ?c1 ?c2 ?c3 ?c4 ?c5 ?_))
            case c1 => exact tie_news _ t 28 _ (by simp)
            case c2 => exact tie_oneCell t
            case c3 => unfold maxLen; omega
            case c4 => omega
            case c5 => simp; omega
            intro v' w1 hown1 hg1 hnil1
            have hb1 : Below w.heap.size w w1 := (((hb.alloc hsz2 _).alloc (by simp; omega) _).alloc (by simp; omega) _).grown hg1 (by simp; omega) (fun j hj => (hown.lt j hj).1)
            have HW : Hid (w1.ownsRow w.heap.size 28 7 v' (l ++ [t]).length ((l ++ [t]).flatMap TieD.cells)) := hid (by simpa using hown1)
            have hn1 : v' ≠ .slice none 0 0 := hnil1
            clear hown1 hg1 hnil1 hown
            go_wp2
            go_roundw
            case rel => exact ⟨k2 + 1, by omega, by go_num, by rw [HS.out, hB]; exact HW.out, hn1, hb1⟩
            case measure => simp [intOf]; omega
          · have hB' : inF t.F t.T d = false := by simpa using hB
            clear hB
            go_wp2_with (go_at_call 15; refine (inForce_any _ _ _ _ _ _ _ _ _).mono ?_; rintro e w' ⟨rfl, rfl⟩)
            go_roundw
            case rel => exact ⟨k2 + 1, by omega, by go_num, by rw [HS.out, hB']; simpa using (hown.alloc _).alloc _, hnn, (hb.alloc hsz2 _).alloc (by simp; omega) _⟩
            case measure => simp [intOf]; omega
        · have hkn : k2 = k := by omega
          subst hkn
          go_wp2
          go_ret
          rw [show ts.take k2 = ts from List.take_of_length_le (by have := HN.out; omega)] at hown
          exact ⟨_, rfl, hown, hnn, hb⟩
end Go.Proofs.Ybulkagqa
