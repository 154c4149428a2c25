import Derived.Test.YbulkagqaDoorF5
namespace Go.Proofs.YbulkagqaDoor
open Go.RowKit Go.Lib
set_option linter.unusedVariables false
set_option linter.unusedSimpArgs false

/-! ### The plain laws -/
theorem sorted_ext : ∀ (l₁ l₂ : List Int), l₁.Pairwise (· < ·) → l₂.Pairwise (· < ·) → (∀ x, x ∈ l₁ ↔ x ∈ l₂) → l₁ = l₂
  | [], [], _, _, _ => rfl
  | [], b :: r, _, _, h => absurd ((h b).2 (by simp)) (by simp)
  | a :: r, [], _, _, h => absurd ((h a).1 (by simp)) (by simp)
  | a :: r, b :: s, h1, h2, h => by
    obtain ⟨a1, a2⟩ := List.pairwise_cons.1 h1
    obtain ⟨b1, b2⟩ := List.pairwise_cons.1 h2
    have e : a = b := by
      rcases List.mem_cons.1 ((h a).1 (by simp)) with h3 | h3
      · exact h3
      · rcases List.mem_cons.1 ((h b).2 (by simp)) with h4 | h4
        · exact h4.symm
        · have := b1 a h3; have := a1 b h4; omega
    subst e
    rw [sorted_ext r s a2 b2 (fun x => ?_)]
    have hx := h x
    simp only [List.mem_cons] at hx
    constructor
    · intro hr
      rcases hx.1 (.inr hr) with e | e
      · have := a1 x hr; omega
      · exact e
    · intro hs
      rcases hx.2 (.inr hs) with e | e
      · have := b1 x hs; omega
      · exact e

/-- Of a strictly rising list the member at place i has place i. -/
theorem ix_at : ∀ (fs : List Int), fs.Pairwise (· < ·) → ∀ (i : Nat) (d : Int), fs[i]? = some d → fs.countP (· ≤ d) = i + 1
  | [], _, i, d, h => by simp at h
  | a :: r, hp, 0, d, h => by
    obtain ⟨h1, h2⟩ := List.pairwise_cons.1 hp
    simp at h; subst h
    rw [List.countP_cons]
    have : r.countP (· ≤ a) = 0 := List.countP_eq_zero.2 (fun x hx => by have := h1 x hx; simp; omega)
    simp [this]
  | a :: r, hp, i + 1, d, h => by
    obtain ⟨h1, h2⟩ := List.pairwise_cons.1 hp
    have h' : r[i]? = some d := by simpa using h
    rw [List.countP_cons, ix_at r h2 i d h']
    have := h1 d (List.mem_of_getElem? h')
    simp; omega
theorem ixN_at {fs : List Int} (hp : fs.Pairwise (· < ·)) {i : Nat} {d : Int} (h : fs[i]? = some d) : ixN fs d = i := by
  unfold ixN; rw [ix_at fs hp i d h]; omega
theorem ixN_get {fs : List Int} (hp : fs.Pairwise (· < ·)) {d : Int} (h : d ∈ fs) : fs[ixN fs d]? = some d := by
  obtain ⟨i, hi, e⟩ := List.getElem_of_mem h
  have h1 : fs[i]? = some d := by rw [List.getElem?_eq_getElem hi, e]
  rw [ixN_at hp h1]; exact h1

theorem turns_iff (F T d : Int) : d ∈ turnsL F T ↔ (fromB F d || toB T d) = true := by
  unfold turnsL fromB toB
  rw [List.mem_append, Bool.or_eq_true, Bool.and_eq_true, Bool.and_eq_true]
  simp only [decide_eq_true_eq]
  have a : (d ∈ if F = -2147483648 then [] else [F]) ↔ (F ≠ -2147483648 ∧ F = d) := by
    by_cases h1 : F = -2147483648
    · rw [if_pos h1]; simp [h1]
    · rw [if_neg h1]; simp only [List.mem_singleton]; exact ⟨fun e => ⟨h1, e.symm⟩, fun e => e.2.symm⟩
  have b : (d ∈ if T = 2147483647 then [] else [T + 1]) ↔ (T ≠ 2147483647 ∧ T + 1 = d) := by
    by_cases h1 : T = 2147483647
    · rw [if_pos h1]; simp [h1]
    · rw [if_neg h1]; simp only [List.mem_singleton]; exact ⟨fun e => ⟨h1, e.symm⟩, fun e => e.2.symm⟩
  rw [a, b]
theorem turns_gt {F T : Int} (hF : -2147483648 ≤ F) (hT : -2147483648 ≤ T) : ∀ d ∈ turnsL F T, -2147483648 < d := by
  intro d hd
  simp only [turnsL, List.mem_append] at hd
  rcases hd with hd | hd
  · by_cases e : F = -2147483648
    · simp [e] at hd
    · simp [e] at hd; omega
  · by_cases e : T = 2147483647
    · simp [e] at hd
    · simp [e] at hd; omega

theorem mem_spans (ts : List TieD) (d : Int) : d ∈ spansL ts ↔ d = -2147483648 ∨ ∃ t ∈ ts, d ∈ turnsL t.F t.T := by
  unfold spansL; rw [ddSort_mem]; simp [firstsL, turnsAll]
/-- Behind the first: the turns. -/
theorem mem_drop {ts : List TieD} (hge : ∀ t ∈ ts, -2147483648 ≤ t.F ∧ -2147483648 ≤ t.T) (d : Int) : d ∈ (spansL ts).drop 1 ↔ ∃ t ∈ ts, d ∈ turnsL t.F t.T := by
  have hp := spansL_pw ts
  have ho := spansL_open ts
  have hm := mem_spans ts d
  have hall : ∀ x ∈ spansL ts, -2147483648 ≤ x := fun x hx => by
    rcases (mem_spans ts x).1 hx with rfl | ⟨t, ht, hxt⟩
    · decide
    · have := turns_gt (hge t ht).1 (hge t ht).2 x hxt; omega
  cases hs : spansL ts with
  | nil => rw [hs] at ho; simp at ho
  | cons a r =>
    rw [hs] at hp ho hm hall
    obtain ⟨h1, h2⟩ := List.pairwise_cons.1 hp
    have ea : a = -2147483648 := by
      rcases List.mem_cons.1 ho with h | h
      · exact h.symm
      · have := h1 _ h; have := hall a (by simp); omega
    subst ea
    simp only [List.drop_succ_cons, List.drop_zero]
    constructor
    · intro hd
      rcases hm.1 (by simp [hd]) with e | e
      · have := h1 d hd; omega
      · exact e
    · intro he
      rcases List.mem_cons.1 (hm.2 (.inr he)) with e | e
      · obtain ⟨t, ht, hdt⟩ := he
        have := turns_gt (hge t ht).1 (hge t ht).2 d hdt
        omega
      · exact e

theorem mem_rowL (j : Nat) (ins : List InD) (t : TieD) : t ∈ rowL j ins ↔ ∃ x ∈ ins, sel j x = true ∧ tieOf x = t := by
  simp [rowL, and_assoc]
theorem rowL_ge {ins : List InD} (hok : ∀ x ∈ ins, x.ok) (j : Nat) : ∀ t ∈ rowL j ins, -2147483648 ≤ t.F ∧ -2147483648 ≤ t.T := by
  intro t ht
  obtain ⟨x, hx, _, rfl⟩ := (mem_rowL j ins t).1 ht
  exact ⟨(hok x hx).F0, (hok x hx).T0⟩

theorem mem_ds {ins : List InD} (hok : ∀ x ∈ ins, x.ok) (d : Int) : d ∈ dsL ins ↔ ∃ t ∈ rowL 4 ins, d ∈ turnsL t.F t.T := by
  unfold dsL f1L f2L
  rw [List.mem_append, mem_drop (rowL_ge hok 0), mem_drop (rowL_ge hok 3)]
  constructor
  · rintro (⟨t, ht, hd⟩ | ⟨t, ht, hd⟩)
    · obtain ⟨x, hx, hs, rfl⟩ := (mem_rowL _ _ _).1 ht
      exact ⟨_, (mem_rowL _ _ _).2 ⟨x, hx, by simp [sel] at hs ⊢; omega, rfl⟩, hd⟩
    · obtain ⟨x, hx, hs, rfl⟩ := (mem_rowL _ _ _).1 ht
      exact ⟨_, (mem_rowL _ _ _).2 ⟨x, hx, by simp [sel] at hs ⊢; omega, rfl⟩, hd⟩
  · rintro ⟨t, ht, hd⟩
    obtain ⟨x, hx, hs, rfl⟩ := (mem_rowL _ _ _).1 ht
    by_cases h : x.r % 11 ≤ 1 ∨ x.r % 11 = 10
    · exact .inl ⟨_, (mem_rowL _ _ _).2 ⟨x, hx, by simp [sel]; omega, rfl⟩, hd⟩
    · exact .inr ⟨_, (mem_rowL _ _ _).2 ⟨x, hx, by simp [sel] at hs ⊢; omega, rfl⟩, hd⟩
/-- Every turn of an input's tie is a first day. -/
theorem turn_fs {ins : List InD} {x : InD} (hx : x ∈ ins) {d : Int} (hd : d ∈ turnsL x.F x.T) : d ∈ fsL ins := by
  unfold fsL
  rw [mem_spans]
  refine .inr ⟨tieOf x, ?_, hd⟩
  rw [List.mem_append, mem_rowL, mem_rowL]
  by_cases h : x.r % 11 ≤ 1 ∨ x.r % 11 = 10
  · exact .inl ⟨x, hx, by simp [sel]; omega, rfl⟩
  · exact .inr ⟨x, hx, by simp [sel]; omega, rfl⟩

/-- The places of those first days at which one of the ties turns. -/
def hitB (ts : List TieD) (d : Int) : Bool := ts.any fun t => fromB t.F d || toB t.T d
def wantL (fs : List Int) (ts : List TieD) (k : Nat) : List Int := ((List.range k).filter fun i => hitB ts (fs.getD i 0)).map fun (i : Nat) => (i : Int)
theorem wantL_succ (fs : List Int) (ts : List TieD) (k : Nat) : wantL fs ts (k + 1) = wantL fs ts k ++ (if hitB ts (fs.getD k 0) = true then [(k : Int)] else []) := by
  unfold wantL
  rw [List.range_succ, List.filter_append, List.map_append]
  congr 1
  by_cases h : hitB ts (fs.getD k 0) = true
  · rw [if_pos h, List.filter_cons_of_pos (p := fun i => hitB ts (fs.getD i 0)) h]; rfl
  · rw [if_neg h, List.filter_cons_of_neg (p := fun i => hitB ts (fs.getD i 0)) h]; rfl
theorem wantL_len (fs : List Int) (ts : List TieD) (k : Nat) : (wantL fs ts k).length ≤ k := by
  have := List.length_filter_le (fun i => hitB ts (fs.getD i 0)) (List.range k)
  simpa [wantL] using this
theorem wantL_pw (fs : List Int) (ts : List TieD) : ∀ k, (wantL fs ts k).Pairwise (· < ·)
  | 0 => by simp [wantL]
  | k + 1 => by
    rw [wantL_succ]
    refine List.pairwise_append.2 ⟨wantL_pw fs ts k, by split <;> simp, fun a ha b hb => ?_⟩
    simp [wantL] at ha
    obtain ⟨i, ⟨hi, _⟩, rfl⟩ := ha
    split at hb
    · simp at hb; omega
    · cases hb
theorem mem_wantL (fs : List Int) (ts : List TieD) (x : Int) : x ∈ wantL fs ts fs.length ↔ ∃ (i : Nat) (d : Int), fs[i]? = some d ∧ (∃ t ∈ ts, d ∈ turnsL t.F t.T) ∧ x = (i : Int) := by
  simp only [wantL, List.mem_map, List.mem_filter, List.mem_range]
  constructor
  · rintro ⟨i, ⟨hi, hh⟩, rfl⟩
    rw [List.getD_eq_getElem?_getD, List.getElem?_eq_getElem hi] at hh
    simp only [hitB, List.any_eq_true, Option.getD_some] at hh
    obtain ⟨t, ht, htb⟩ := hh
    exact ⟨i, fs[i], List.getElem?_eq_getElem hi, ⟨t, ht, (turns_iff _ _ _).2 htb⟩, rfl⟩
  · rintro ⟨i, d, hi, ⟨t, ht, hd⟩, rfl⟩
    refine ⟨i, ⟨(List.getElem?_eq_some_iff.1 hi).1, ?_⟩, rfl⟩
    rw [List.getD_eq_getElem?_getD, hi]
    simp only [hitB, List.any_eq_true, Option.getD_some]
    exact ⟨t, ht, (turns_iff _ _ _).1 hd⟩

/-- The common form: sorted, compacted places of turns are the places at which one of the ties turns. -/
theorem want_eq {fs : List Int} (hp : fs.Pairwise (· < ·)) {ts : List TieD} {ds : List Int} (hds : ∀ d, d ∈ ds ↔ ∃ t ∈ ts, d ∈ turnsL t.F t.T) (hin : ∀ d ∈ ds, d ∈ fs) : ddSort (ds.map fun d => (ixN fs d : Int)) = wantL fs ts fs.length := by
  refine sorted_ext _ _ (ddSort_pairwise _) (wantL_pw _ _ _) (fun x => ?_)
  rw [ddSort_mem, mem_wantL]
  simp only [List.mem_map]
  constructor
  · rintro ⟨d, hd, rfl⟩
    exact ⟨_, d, ixN_get hp (hin d hd), (hds d).1 hd, rfl⟩
  · rintro ⟨i, d, hi, ht, rfl⟩
    exact ⟨d, (hds d).2 ht, by rw [ixN_at hp hi]⟩

theorem all_law {ins : List InD} (hok : ∀ x ∈ ins, x.ok) : ddSort ((dsL ins).map fun d => (ixN (fsL ins) d : Int)) = wantL (fsL ins) (rowL 4 ins) (fsL ins).length := by
  refine want_eq (spansL_pw _) (mem_ds hok) (fun d hd => ?_)
  obtain ⟨t, ht, hdt⟩ := (mem_ds hok d).1 hd
  obtain ⟨x, hx, _, rfl⟩ := (mem_rowL _ _ _).1 ht
  exact turn_fs hx hdt

/-! ### At -/
def postsAt (ins : List InD) (j : Nat) : List TieD := ((selX 5 ins).filter fun x => x.o % 4 == j).map tieOf
theorem mem_evs (ins : List InD) (x : InD) (d : Int) : (x, d) ∈ evs (selX 1 ins) ↔ x ∈ selX 5 ins ∧ d ∈ turnsL x.F x.T := by
  simp only [evs, List.mem_flatMap]
  constructor
  · rintro ⟨y, hy, he⟩
    unfold evOf at he
    by_cases hp : isP y = true
    · rw [if_pos hp] at he
      obtain ⟨d', hd', e⟩ := List.mem_map.1 he
      simp only [Prod.mk.injEq] at e
      obtain ⟨rfl, rfl⟩ := e
      refine ⟨List.mem_filter.2 ⟨(List.mem_filter.1 hy).1, ?_⟩, hd'⟩
      simp [isP] at hp
      simp [sel]; omega
    · rw [if_neg hp] at he; cases he
  · rintro ⟨hx, hd⟩
    obtain ⟨h1, h2⟩ := List.mem_filter.1 hx
    simp [sel] at h2
    refine ⟨x, List.mem_filter.2 ⟨h1, by simp [sel]; omega⟩, ?_⟩
    unfold evOf
    rw [if_pos (by simp [isP]; omega)]
    exact List.mem_map.2 ⟨d, hd, rfl⟩

theorem at_law (ins : List InD) (j : Nat) : ddSort (atL (fsL ins) (evs (selX 1 ins)) j) = wantL (fsL ins) (postsAt ins j) (fsL ins).length := by
  have e : atL (fsL ins) (evs (selX 1 ins)) j = (((evs (selX 1 ins)).filter fun e => e.1.o % 4 == j).map (·.2)).map fun d => (ixN (fsL ins) d : Int) := by
    simp [atL]
  rw [e]
  have hm : ∀ d, d ∈ (((evs (selX 1 ins)).filter fun e => e.1.o % 4 == j).map (·.2)) ↔ ∃ t ∈ postsAt ins j, d ∈ turnsL t.F t.T := by
    intro d
    simp only [List.mem_map, List.mem_filter, postsAt]
    constructor
    · rintro ⟨⟨x, d'⟩, ⟨h1, h2⟩, rfl⟩
      obtain ⟨h3, h4⟩ := (mem_evs ins x d').1 h1
      exact ⟨tieOf x, ⟨x, ⟨h3, h2⟩, rfl⟩, h4⟩
    · rintro ⟨t, ⟨x, ⟨h1, h2⟩, rfl⟩, h3⟩
      exact ⟨(x, d), ⟨(mem_evs ins x d).2 ⟨h1, h3⟩, h2⟩, rfl⟩
  refine want_eq (spansL_pw _) hm (fun d hd => ?_)
  obtain ⟨t, ht, hdt⟩ := (hm d).1 hd
  simp only [postsAt, List.mem_map, List.mem_filter] at ht
  obtain ⟨x, ⟨hx, _⟩, rfl⟩ := ht
  exact turn_fs (List.mem_filter.1 hx).1 hdt
end Go.Proofs.YbulkagqaDoor
