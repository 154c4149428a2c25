import Derived.Test.YbulkagqaDoorF2
import Derived.Shelf.SlSortCmp.NoneTotal
namespace Go.Proofs.YbulkagqaDoor
open Go.RowKit Go.Lib
open Go.Sort (Holds putRow grow SWO PermIn SortedIn flatK size_flatK HoldsK)
set_option linter.unusedVariables false
set_option linter.unusedSimpArgs false

/-! ### slices.SortFunc of the voters' turns -/
def bd (s : Nat) : Nat := min s 5000
def encT (p : Nat × Nat) : List Value := [.int .i64 (bd p.1 : Nat), .string (nm p.2)]
def cfT (p q : Nat × Nat) : Int := (bd p.1 : Nat) - (bd q.1 : Nat)

theorem cmp_any (p q : Nat × Nat) (w : World) : Calls Ybad.prog 23 #[.agg (encT p).toArray, .agg (encT q).toArray] w fun e w' => e = .returned (.int .i64 (cfT p q)) ∧ ∃ o1 o2, w' = (w.alloc o1).alloc o2 := by
  unfold encT cfT
  have h1 : bd p.1 ≤ 5000 := Nat.min_le_right _ _
  have h2 : bd q.1 ≤ 5000 := Nat.min_le_right _ _
  generalize bd p.1 = a at *
  generalize bd q.1 = b at *
  go_enter Ybad.func23, Ybad.ntmps23
  go_wp2
  go_ret
  exact ⟨rfl, _, _, rfl⟩

theorem encT_at : ∀ (ps : List (Nat × Nat)) (j : Nat) (p : Nat × Nat), ps[j]? = some p → ∀ k, k < 2 → (ps.flatMap encT)[j * 2 + k]? = (encT p)[k]?
  | [], j, p, h, _, _ => by simp at h
  | s :: r, 0, p, h, k, hk => by
    simp at h; subst h
    rw [List.flatMap_cons, Nat.zero_mul, Nat.zero_add, List.getElem?_append_left (by simpa [encT] using hk)]
  | s :: r, j + 1, p, h, k, hk => by
    have h' : r[j]? = some p := by simpa using h
    rw [List.flatMap_cons, List.getElem?_append_right (by simp [encT]; omega), show (j + 1) * 2 + k - (encT s).length = j * 2 + k by simp [encT]; omega]
    exact encT_at r j p h' k hk
theorem encT_len (ps : List (Nat × Nat)) : (ps.flatMap encT).length = ps.length * 2 := by
  induction ps with
  | nil => rfl
  | cons a r ih => rw [List.flatMap_cons, List.length_append, ih]; simp [encT]; omega

theorem flat_eq (ps : List (Nat × Nat)) : (flatK encT 2 ps.toArray).toList = ps.flatMap encT := by
  apply List.ext_getElem?
  intro t
  by_cases ht : t < ps.length * 2
  · have hj : t / 2 < ps.length := by omega
    have h1 := encT_at ps (t / 2) ps[t / 2] (List.getElem?_eq_getElem hj) (t % 2) (by omega)
    rw [show t / 2 * 2 + t % 2 = t by omega] at h1
    rw [h1]
    simp only [flatK]
    simp [ht, hj]
    have : t % 2 < (encT ps[t / 2]).length := by simp [encT]; omega
    simp [this]
  · rw [List.getElem?_eq_none (by simp; omega), List.getElem?_eq_none (by rw [encT_len]; omega)]

theorem isAgg61 (w : World) : (isAgg 61).run Ybad.prog w = .ok true w := by kernel_rfl
theorem sizeOf61 (w : World) : (Go.sizeOf 61).run Ybad.prog w = .ok 2 w := by kernel_rfl
theorem enters23 (args : Array Value) (w : World) : (callFunc 23 args).run Ybad.prog w = .ok (.enter 23 args) w := by kernel_rfl

theorem swoT : SWO (ltOf cfT) := by
  refine ⟨fun x => ?_, fun x y z h1 h2 => ?_, fun x y z h1 h2 => ?_⟩
  · simp [ltOf, cfT]
  · have a1 : cfT x y < 0 := of_decide_eq_true h1
    have a2 : cfT y z < 0 := of_decide_eq_true h2
    exact decide_eq_true (p := cfT x z < 0) (by unfold cfT at *; omega)
  · have a1 : ¬ cfT x y < 0 := of_decide_eq_false h1
    have a2 : ¬ cfT y z < 0 := of_decide_eq_false h2
    exact decide_eq_false (p := cfT x z < 0) (by unfold cfT at *; omega)

theorem sortf_row (w : World) (base : Nat) (v : Value) (ps : List (Nat × Nat)) (hown : w.ownsRow base 61 2 v ps.length (ps.flatMap encT)) (hl : ps.length ≤ 9000) :
    Calls Ybad.prog 22 #[v, .func (.func 23) #[] #[]] w fun e w' => e = .returned (.tuple #[]) ∧ ∃ ps' : List (Nat × Nat), ps'.Perm ps ∧ ps'.Pairwise (fun a b => bd a.1 ≤ bd b.1) ∧ w'.ownsRow base 61 2 v ps.length (ps'.flatMap encT) ∧ w.grownBy w' v.ownBlock := by
  rcases hown.2 with ⟨rfl, h0⟩ | ⟨g, cap, cur, rfl, hg, hb, h1, h2, h3, h4⟩
  · have hz : ps = [] := List.eq_nil_of_length_eq_zero h0
    subst hz
    exact (AnyF.slices_SortFunc_none Ybad.sortFn none 0 _ w).mono fun e w' ⟨he, hw⟩ => ⟨he, [], List.Perm.refl _, List.Pairwise.nil, by subst hw; exact hown, by subst hw; exact World.grownBy.refl _ _⟩
  · have hH : HoldsK encT 2 w g 0 ps.toArray := by
      intro j hj
      have hj' : j < ps.length * 2 := by simpa using hj
      refine ⟨?_, by rw [Nat.zero_add]; exact World.ownsRow.frozenAt hown j⟩
      rw [Nat.zero_add, World.ownsRow.cellAt hown j (by omega), ← flat_eq]
      simp [hj']
    have hcmp : CmpLays Ybad.prog 23 #[] encT 2 cfT g 0 ps.toArray.size w := fun m os dk hs x y =>
      (cmp_any x y _).mono fun e w' ⟨he, o1, o2, hw⟩ => ⟨he, 0, #[o1, o2], by
        rw [hw]
        have e : ∀ h : Array Obj, (h.push o1).push o2 = h ++ #[o1, o2] := fun h => by apply Array.ext'; simp
        simp only [grow, World.alloc, World.drewN, e]
        rfl⟩
    refine (AnyQ.slices_SortFunc Ybad.sortFn 2 isAgg61 sizeOf61 encT (fun x => rfl) (fun x u hu => by simp [encT] at hu; rcases hu with rfl | rfl <;> rfl) cfT swoT 23 #[] g 0 cap ps.toArray w enters23 hcmp hH (Array.getElem?_eq_some_iff.1 hb).1 (by simp; omega)).mono fun e w' ⟨he, d', n, os, hp, hs, hw⟩ => ?_
    obtain ⟨hsz, _, hperm⟩ := hp
    simp only [List.size_toArray] at hsz
    refine ⟨he, d'.toList, ?_, ?_, ?_⟩
    · have e1 : (d'.extract 0 ps.toArray.size).toList = d'.toList := by simp [← hsz]
      have e2 : (ps.toArray.extract 0 ps.toArray.size).toList = ps := by simp
      rw [e1, e2] at hperm
      exact hperm
    · rw [List.pairwise_iff_getElem]
      intro i j hi hj hij
      have hi' : i < d'.size := by simpa using hi
      have hj' : j < d'.size := by simpa using hj
      have := hs i j (Nat.zero_le _) hij (by simp; omega)
      simp [hi', hj', ltOf, cfT] at this
      simp
      omega
    · have h := owns_put id w base g cap n 61 os cur (flatK encT 2 d') 2 ps.length hb hg (by simp [hsz]; omega) (by simp [hsz]) h1 h2 h3
      have h5 := h.1
      rw [List.take_of_length_le (by simp [hsz])] at h5
      have e3 : (flatK encT 2 d').toList = d'.toList.flatMap encT := by
        have := flat_eq d'.toList
        simpa using this
      rw [List.map_id, e3] at h5
      subst hw
      exact ⟨h5, h.2⟩
end Go.Proofs.YbulkagqaDoor
