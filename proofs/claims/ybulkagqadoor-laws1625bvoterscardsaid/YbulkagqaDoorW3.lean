import Derived.Test.YbulkagqaDoorDat
import Derived.Test.YbulkagqaDoorW2
import Derived.Test.YbulkagqaDoorSd13
import Derived.Test.YbulkagqaDoorSl
import Derived.Test.YbulkagqaDoorLaws
namespace Go.Proofs.YbulkagqaDoor
open Go.RowKit
open Go.Sort (Holds putRow grow holds_putRow holds_grow holds_ahead)
set_option linter.unusedVariables false

/-- The sets' slices lie in that row; each reads as its list of ties. -/
def SetsAt (w : World) (bs : Nat) (vss : List (Value × List TieD)) : Prop := ∀ j p, vss[j]? = some p → w.cell? ⟨bs, j, none⟩ = some p.1 ∧ TiesAt w p.1 p.2

def turnsAll (ts : List TieD) : List Int := ts.flatMap fun t => turnsL t.F t.T
def firstsL (ts : List TieD) : List Int := -2147483648 :: turnsAll ts
def spansL (ts : List TieD) : List Int := ddSort (firstsL ts)
def tiesOf (vss : List (Value × List TieD)) : List TieD := vss.flatMap (·.2)

theorem turnsAll_append (a b : List TieD) : turnsAll (a ++ b) = turnsAll a ++ turnsAll b := by simp [turnsAll]
theorem turnsAll_len (ts : List TieD) : (turnsAll ts).length ≤ 2 * ts.length := by
  induction ts with
  | nil => simp [turnsAll]
  | cons t r ih =>
    have h := turnsL_len t.F t.T
    have e : turnsAll (t :: r) = turnsL t.F t.T ++ turnsAll r := by simp [turnsAll]
    rw [e, List.length_append, List.length_cons]; omega
theorem tiesOf_snoc (vss : List (Value × List TieD)) (k : Nat) (p : Value × List TieD) (h : vss[k]? = some p) : tiesOf (vss.take (k + 1)) = tiesOf (vss.take k) ++ p.2 := by
  rw [take_snoc vss k p h]; simp [tiesOf]
theorem tiesOf_take_len (vss : List (Value × List TieD)) (k : Nat) : (tiesOf (vss.take k)).length ≤ (tiesOf vss).length := by
  have h : tiesOf vss = tiesOf (vss.take k) ++ tiesOf (vss.drop k) := by unfold tiesOf; rw [← List.flatMap_append, List.take_append_drop]
  rw [h, List.length_append]; omega

theorem ownsRow_below {w w' : World} {B base : Nat} {e : TypeId} {size : Nat} {v : Value} {n : Nat} {xs : List Value} (h : w.ownsRow base e size v n xs) (hb : Below B w w') (hB : w.heap.size ≤ B) : w'.ownsRow base e size v n xs := by
  obtain ⟨h1, h2⟩ := h
  refine ⟨h1, ?_⟩
  rcases h2 with h2 | ⟨g, cap, cur, hv, hg, hh, r⟩
  · exact Or.inl h2
  · have hl : g < w.heap.size := (Array.getElem?_eq_some_iff.1 hh).1
    exact Or.inr ⟨g, cap, cur, hv, hg, by rw [hb.block g (by omega)]; exact hh, r⟩

/-- slices.Compact behind slices.Sort: the row holds the list of spans. -/
theorem compact_sorted (g cap : Nat) (zs : List Int) (w : World) (hH : Holds (Value.int .i32) w g 0 (zs.mergeSort leI).toArray) (hsz : zs.length ≤ 9000) (hcap : zs.length ≤ cap) :
    Calls Ybad.prog 25 #[.slice (some ⟨g, 0, none⟩) zs.length cap] w fun e w' => e = .returned (.slice (some ⟨g, 0, none⟩) (ddSort zs).length cap) ∧ ∃ q, w' = putRow (Value.int .i32) (Sort.ahead w q) g 0 (ddSort zs ++ List.replicate (zs.length - (ddSort zs).length) 0).toArray := by
  have hl : (zs.mergeSort leI).toArray.size = zs.length := by simp
  have h := Ybad.slices_Compact_d g 0 cap (zs.mergeSort leI).toArray w hH (by omega) (by omega)
  have hc : Lib.compactUpTo (zs.mergeSort leI).toArray (zs.mergeSort leI).toArray.size = ddSort zs := by
    have := compact_eq_dd (zs.mergeSort leI)
    rw [hl]; rw [List.length_mergeSort] at this; exact this
  rw [hc, hl] at h
  exact h

theorem spans_tail {w wr : World} {g n q : Nat} {zs fs : List Int} {os : Array Obj} (hfs : fs.length ≤ zs.length) (hb : Below w.heap.size w wr) (hg : w.heap.size ≤ g) (hgl : g < wr.heap.size) (hH : Holds (Value.int .i32) wr g 0 zs.toArray) :
    (∀ j, j < fs.length → (putRow (Value.int .i32) (Sort.ahead (grow (putRow (Value.int .i32) (Sort.ahead wr n) g 0 (zs.mergeSort leI).toArray) os) q) g 0 (fs ++ List.replicate (zs.length - fs.length) 0).toArray).cell? ⟨g, j, none⟩ = some (.int .i32 (fs.getD j 0))) ∧
    g < (putRow (Value.int .i32) (Sort.ahead (grow (putRow (Value.int .i32) (Sort.ahead wr n) g 0 (zs.mergeSort leI).toArray) os) q) g 0 (fs ++ List.replicate (zs.length - fs.length) 0).toArray).heap.size ∧
    Below w.heap.size w (putRow (Value.int .i32) (Sort.ahead (grow (putRow (Value.int .i32) (Sort.ahead wr n) g 0 (zs.mergeSort leI).toArray) os) q) g 0 (fs ++ List.replicate (zs.length - fs.length) 0).toArray) := by
  have hsz := hb.size
  have h1 : Holds (Value.int .i32) (grow (putRow (Value.int .i32) (Sort.ahead wr n) g 0 (zs.mergeSort leI).toArray) os) g 0 (zs.mergeSort leI).toArray :=
    holds_grow _ _ _ _ _ _ (by simpa using hgl) (holds_putRow _ _ _ _ zs.toArray _ (holds_ahead _ _ _ _ _ _ hH) (by simp))
  refine ⟨fun j hj => ?_, by simp; omega, below_putRow (below_ahead (below_grow (below_putRow (below_ahead hb _) _ _ _ _ hg) _ (by simpa using hsz)) _) _ _ _ _ hg⟩
  have h2 := Sort.cell?_putRow (Value.int .i32) (Sort.ahead (grow (putRow (Value.int .i32) (Sort.ahead wr n) g 0 (zs.mergeSort leI).toArray) os) q) g 0 (zs.mergeSort leI).toArray (fs ++ List.replicate (zs.length - fs.length) 0).toArray (holds_ahead _ _ _ _ _ _ h1) (by simp; omega) j (by simp; omega)
  rw [Nat.zero_add] at h2
  rw [h2]
  simp [hj, List.getElem?_append_left]

set_option maxHeartbeats 4000000 in
set_option maxRecDepth 100000 in
theorem spans_any (bs : Nat) (vss : List (Value × List TieD)) (w : World) (hm : vss.length ≤ 4) (hsum : (tiesOf vss).length ≤ 4096) (hS : SetsAt w bs vss) (hT : ∀ t ∈ tiesOf vss, -2147483648 ≤ t.T ∧ t.T ≤ 2147483647) :
    Calls Ybad.prog 14 #[.slice (some ⟨bs, 0, none⟩) vss.length vss.length] w fun e w' => ∃ g cap, e = .returned (.slice (some ⟨g, 0, none⟩) (spansL (tiesOf vss)).length cap) ∧
      (∀ j, j < (spansL (tiesOf vss)).length → w'.cell? ⟨g, j, none⟩ = some (.int .i32 ((spansL (tiesOf vss)).getD j 0))) ∧ w.heap.size ≤ g ∧ g < w'.heap.size ∧ Below w.heap.size w w' ∧ (spansL (tiesOf vss)).length ≤ cap := by
  obtain ⟨i0, hi, hz0, hz1, hz2⟩ := info_parts info49
  have HS : Hid (SetsAt w bs vss) := hS
  have HT : Hid (∀ t ∈ tiesOf vss, -2147483648 ≤ t.T ∧ t.T ≤ 2147483647) := hT
  clear hS hT
  generalize hM : vss.length = m at *
  have HM : Hid (vss.length = m) := hM
  clear hM
  generalize hN : (tiesOf vss).length = n at *
  have HN : Hid ((tiesOf vss).length = n) := hN
  clear hN
  go_enter Ybad.func14, Ybad.ntmps14
  go_wp2
  have hown0 : (w.alloc (.cells #[.int .i32 (-2147483648)] 49)).ownsRow w.heap.size 49 1 (.slice (some ⟨w.heap.size, 0, none⟩) 1 1) 1 [.int .i32 (-2147483648)] := World.ownsRow_lit w #[.int .i32 (-2147483648)] 1 (Nat.le_refl _) (by unfold maxLen; omega) rfl
  go_loopw [3, 11] (fun vf vi wr => ∃ k : Nat, k ≤ m ∧ vi = .int .i64 k ∧ wr.ownsRow w.heap.size 49 1 vf (firstsL (tiesOf (vss.take k))).length ((firstsL (tiesOf (vss.take k))).map (Value.int .i32)) ∧ Below w.heap.size w wr) (fun _ vi _ => m - (intOf vi).toNat)
  case atStart => exact ⟨0, Nat.zero_le _, rfl, hown0, (Below.refl _ _).alloc (Nat.le_refl _) _⟩
  case round =>
    obtain ⟨k, hk, rfl, hown, hb⟩ := hrel
    have hsz := hb.size
    by_cases hlt : k < m
    · obtain ⟨p, hp⟩ : ∃ p, vss[k]? = some p := ⟨_, List.getElem?_eq_getElem (by have := HM.out; omega)⟩
      have HP : Hid (tiesOf (vss.take (k + 1)) = tiesOf (vss.take k) ++ p.2) := tiesOf_snoc vss k p hp
      obtain ⟨hc0, hTA⟩ := HS.out k p hp
      have hbl : bs < w.heap.size := World.block_lt_of_cell? w ⟨bs, k, none⟩ hc0
      have hc : wr.cell? ⟨bs, k, none⟩ = some p.1 := (hb.cell (p := ⟨bs, k, none⟩) hbl).trans hc0
      obtain ⟨v, ts⟩ := p
      obtain ⟨a, cap, hv, hts⟩ := hTA
      simp only at hv hts hc HP
      subst hv
      have hlen : (tiesOf (vss.take k)).length + ts.length ≤ n := by
        have h1 := tiesOf_take_len vss (k + 1)
        rw [HP.out, List.length_append] at h1
        have := HN.out
        omega
      have HTS : Hid (∀ j t, ts[j]? = some t → ∃ g, a = some ⟨g, 0, none⟩ ∧ TieAt w g (j * 7) t) := hts
      have HTT : Hid (∀ t ∈ ts, -2147483648 ≤ t.T ∧ t.T ≤ 2147483647) := fun t ht => HT.out t (by
        have h1 : t ∈ tiesOf (vss.take (k + 1)) := by rw [HP.out]; exact List.mem_append_right _ ht
        unfold tiesOf at h1 ⊢
        obtain ⟨q, hq, hqt⟩ := List.mem_flatMap.1 h1
        exact List.mem_flatMap.2 ⟨q, List.mem_of_mem_take hq, hqt⟩)
      clear hts hc0 hp
      generalize hA : tiesOf (vss.take k) = A at *
      clear hA
      generalize hL : ts.length = l at *
      have HL : Hid (ts.length = l) := hL
      clear hL
      go_wp2
      go_loopw [3, 17] (fun vf vj wr => ∃ j : Nat, j ≤ l ∧ vj = .int .i64 j ∧ wr.ownsRow w.heap.size 49 1 vf (firstsL (A ++ ts.take j)).length ((firstsL (A ++ ts.take j)).map (Value.int .i32)) ∧ Below w.heap.size w wr) (fun _ vj _ => l - (intOf vj).toNat)
      case atStart => exact ⟨0, Nat.zero_le _, rfl, by simpa using hown, hb⟩
      case round =>
        clear hown hb hsz hc
        obtain ⟨j, hj, rfl, hown, hb⟩ := hrel
        have hsz := hb.size
        by_cases hlt2 : j < l
        · obtain ⟨t, ht⟩ : ∃ t, ts[j]? = some t := ⟨_, List.getElem?_eq_getElem (by have := HL.out; omega)⟩
          obtain ⟨g, rfl, hA0⟩ := HTS.out j t ht
          obtain ⟨hT0, hT1⟩ := HTT.out t (List.mem_of_getElem? ht)
          have hgl : g < w.heap.size := World.block_lt_of_cell? w ⟨g, j * 7, none⟩ hA0.c0
          have hTA : TieAt wr g (j * 7) t := hA0.kept (hb.block g hgl)
          have HF : Hid (firstsL (A ++ ts.take (j + 1)) = firstsL (A ++ ts.take j) ++ turnsL t.F t.T) := hid (by
            rw [take_snoc ts j t ht, ← List.append_assoc]; unfold firstsL; rw [turnsAll_append (A ++ ts.take j)]; simp [turnsAll])
          have hlenF : (firstsL (A ++ ts.take j)).length ≤ 8193 := by
            have h1 := turnsAll_len (A ++ ts.take j)
            have h2 : (ts.take j).length ≤ j := List.length_take_le _ _
            rw [List.length_append] at h1
            have : (firstsL (A ++ ts.take j)).length = (turnsAll (A ++ ts.take j)).length + 1 := by simp [firstsL]
            omega
          obtain ⟨c0, c1, c2, c3, c4, c5, c6⟩ := hTA
          clear ht hA0
          generalize firstsL (A ++ ts.take j) = fs at *
          have hl2 := turnsL_len t.F t.T
          go_wp2_with (first
            | (go_at_call 19; refine (turns_any _ _ _ _ _ _ _ _ hT0 hT1).mono ?_; rintro e w' ⟨v, rfl, hown2, hb2⟩; have hown3 := ownsRow_below (hown.alloc _) hb2 (Nat.le_refl _); have hb3 : Below w.heap.size w w' := (hb.alloc hsz _).trans (hb2.mono (by simp; omega)); have hsz3 := hb3.size; clear hb2)
            | (at_builtin; refine wpList_append_two _ rfl (.tmp 21) (.tmp 23) 39 rfl w.heap.size _ 49 i0 (.int .i32 0) 1 4 Ybad.underlying39 hi hz0 hz1 hz2 rfl (by decide) _ _ _ rfl hown3 _ _ _ rfl hown2 (ints_oneCell _ _) (by unfold maxLen; omega) (by omega) hsz3 ?_; intro v' w1 hown4 hg4 hnil4; have hb4 : Below w.heap.size w w1 := hb3.grown hg4 hsz3 (fun k hk => (hown3.lt k hk).1); clear hg4 hnil4))
          have HW : Hid (w1.ownsRow w.heap.size 49 1 v' (fs ++ turnsL t.F t.T).length ((fs ++ turnsL t.F t.T).map (Value.int .i32))) := hid (by rw [List.length_append, List.map_append]; exact hown4)
          clear hown4 hown3 hown2 hown
          go_roundw
          case rel => exact ⟨j + 1, by omega, by go_num, by rw [HF.out]; exact HW.out, hb4⟩
          case measure => simp [intOf]; omega
        · have hjl : j = l := by omega
          subst hjl
          have HW : Hid (wr.ownsRow w.heap.size 49 1 u3 (firstsL (A ++ ts)).length ((firstsL (A ++ ts)).map (Value.int .i32))) := hid (by rw [show ts.take j = ts from List.take_of_length_le (by have := HL.out; omega)] at hown; exact hown)
          clear hown
          go_wp2
          go_roundw
          case rel => exact ⟨k + 1, by omega, by go_num, by rw [HP.out]; exact HW.out, hb⟩
          case measure => simp [intOf]; omega
    · have hkm : k = m := by omega
      subst hkm
      rw [show vss.take k = vss from List.take_of_length_le (by have := HM.out; omega)] at hown
      have hlz : (firstsL (tiesOf vss)).length ≤ 9000 := by
        have h1 := turnsAll_len (tiesOf vss)
        have h2 := HN.out
        have : (firstsL (tiesOf vss)).length = (turnsAll (tiesOf vss)).length + 1 := by simp [firstsL]
        omega
      have hlz0 : 0 < (firstsL (tiesOf vss)).length := by simp [firstsL]
      have hlf : (spansL (tiesOf vss)).length ≤ (firstsL (tiesOf vss)).length := ddSort_len _
      have hex : ∃ g cap, u3 = .slice (some ⟨g, 0, none⟩) (firstsL (tiesOf vss)).length cap ∧ w.heap.size ≤ g ∧ (firstsL (tiesOf vss)).length ≤ cap := by
        rcases hown.2 with ⟨_, e⟩ | ⟨g, cap, cur, e, h1, _, h2, _⟩
        · omega
        · exact ⟨g, cap, e, h1, h2⟩
      obtain ⟨g, cap, rfl, hbase, hcap⟩ := hex
      have hgl : g < wr.heap.size := (hown.lt g rfl).2
      have hH : Holds (Value.int .i32) wr g 0 (firstsL (tiesOf vss)).toArray := holds_of_owns hown
      have hsort := Ybad.slices_Sort_d g 0 cap (firstsL (tiesOf vss)) wr hH hgl (by omega)
      have hcomp := fun W h => compact_sorted g cap (firstsL (tiesOf vss)) W h hlz hcap
      have hdef : ddSort (firstsL (tiesOf vss)) = spansL (tiesOf vss) := rfl
      rw [hdef] at hcomp
      have HC := hid hcomp
      have HSo := hid hsort
      have HH : Hid (Holds (Value.int .i32) wr g 0 (firstsL (tiesOf vss)).toArray) := hH
      clear hcomp hsort hH hown hdef
      generalize hfs : spansL (tiesOf vss) = fs at *
      have HFS := hid hfs
      clear hfs
      generalize firstsL (tiesOf vss) = zs at *
      go_wp2_with fail
      refine HSo.out.mono ?_
      rintro e w' ⟨rfl, n1, os, rfl⟩
      go_wp2_with fail
      refine (HC.out _ (holds_grow _ _ _ _ _ _ (by simpa using hgl) (holds_putRow _ _ _ _ zs.toArray _ (holds_ahead _ _ _ _ _ _ HH.out) (by simp)))).mono ?_
      rintro e w' ⟨rfl, q, rfl⟩
      go_wp2
      go_ret
      obtain ⟨r1, r2, r3⟩ := spans_tail (n := n1) (q := q) (os := os) hlf hb hbase hgl HH.out
      rw [HFS.out]
      exact ⟨g, cap, rfl, r1, hbase, r2, r3, Nat.le_trans hlf hcap⟩
end Go.Proofs.YbulkagqaDoor
