import Derived.Test.YbulkagqaDoorG3
namespace Go.Proofs.YbulkagqaDoor
open Go.RowKit Go.Lib
set_option linter.unusedVariables false
set_option linter.unusedSimpArgs false

/-! ### The plain law of the voters -/
def sumN (f : InD → Nat) (X : List InD) : Nat := (X.map f).sum
theorem sumN_snoc (f : InD → Nat) (X : List InD) (k : Nat) (x : InD) (h : X[k]? = some x) : sumN f (X.take (k + 1)) = sumN f (X.take k) + f x := by
  rw [take_snoc X k x h]; simp [sumN]
theorem sumN_le (f : InD → Nat) (c : Nat) (hf : ∀ x, f x ≤ c) : ∀ X : List InD, sumN f X ≤ c * X.length
  | [] => by simp [sumN]
  | x :: r => by
    have h1 := sumN_le f c hf r
    have h2 := hf x
    have e : sumN f (x :: r) = f x + sumN f r := by simp [sumN]
    rw [e, List.length_cons, Nat.mul_succ]; omega

theorem evs_count (q : InD × Int → Bool) : ∀ L : List InD, (evs (L.filter (sel 1))).countP q = sumN (fun x => (turnsL x.F x.T).countP fun d => q (x, d)) (L.filter (sel 5))
  | [] => by simp [evs, sumN]
  | x :: r => by
    have ih := evs_count q r
    by_cases h1 : sel 1 x = true
    · have e1 : evs ((x :: r).filter (sel 1)) = evOf x ++ evs (r.filter (sel 1)) := by rw [List.filter_cons_of_pos h1]; simp [evs]
      rw [e1, List.countP_append, ih]
      by_cases h5 : sel 5 x = true
      · have hp : isP x = true := by simp [sel] at h5; simp [isP]; omega
        rw [List.filter_cons_of_pos h5]
        have e2 : evOf x = (turnsL x.F x.T).map fun d => (x, d) := by simp [evOf, hp]
        rw [e2, List.countP_map]
        simp only [sumN, List.map_cons, List.sum_cons]
        rfl
      · have hp : isP x = false := by simp [sel] at h5; simp [isP]; omega
        rw [List.filter_cons_of_neg h5]
        simp [evOf, hp]
    · rw [List.filter_cons_of_neg h1, ih]
      have h5 : ¬ sel 5 x = true := by simp [sel] at h1 ⊢; omega
      rw [List.filter_cons_of_neg h5]

theorem vt_eq (ins : List InD) (i : Nat) : vtL (selX 2 ins) i = voteB i ins := by
  rw [Bool.eq_iff_iff]
  simp only [vtL, voteB, selX, List.any_eq_true, List.mem_filter, Bool.and_eq_true]
  constructor
  · rintro ⟨x, ⟨h1, h2⟩, h3⟩; exact ⟨x, h1, h2, h3⟩
  · rintro ⟨x, h1, h2, h3⟩; exact ⟨x, ⟨h1, h2⟩, h3⟩

/-- What a post adds to the voters' number. -/
def addW (ins : List InD) (x : InD) : Nat := if voteB (x.s % 4) ins = true then (if x.F = -2147483648 then 0 else 1) + (if x.T = 2147483647 then 0 else 1) else 0
/-- What a post adds at the organisation o on the day d. -/
def addE (ins : List InD) (o : Nat) (d : Int) (x : InD) : Nat := if voteB (x.s % 4) ins = true ∧ x.o % 4 = o then (if fromB x.F d = true then 1 else 0) + (if toB x.T d = true then 1 else 0) else 0
theorem addW_le (ins : List InD) (x : InD) : addW ins x ≤ 2 := by unfold addW; split <;> (try split) <;> (try split) <;> omega
theorem addE_le (ins : List InD) (o : Nat) (d : Int) (x : InD) : addE ins o d x ≤ 2 := by unfold addE; split <;> (try split) <;> (try split) <;> omega

theorem vot_len (ins : List InD) : (votL (fsL ins) (vtL (selX 2 ins)) (evs (selX 1 ins))).length = sumN (addW ins) (selX 5 ins) := by
  have e : (votL (fsL ins) (vtL (selX 2 ins)) (evs (selX 1 ins))).length = (evs (ins.filter (sel 1))).countP fun e => vtL (selX 2 ins) (e.1.s % 4) := by
    simp only [votL, List.length_map]
    rw [List.countP_eq_length_filter]
    rfl
  rw [e, evs_count]
  congr 1
  funext x
  simp only [vt_eq]
  unfold addW
  by_cases h : voteB (x.s % 4) ins = true
  · rw [if_pos h]
    simp only [h, List.countP_true]
    unfold turnsL
    rw [List.length_append]
    congr 1
    · by_cases hF : x.F = -2147483648 <;> simp [hF]
    · by_cases hT : x.T = 2147483647 <;> simp [hT]
  · rw [if_neg h]
    simp [h]

theorem vot_mem {ins : List InD} {p : Nat × Nat} (h : p ∈ votL (fsL ins) (vtL (selX 2 ins)) (evs (selX 1 ins))) : p.1 < (fsL ins).length ∧ p.2 < 4 := by
  simp only [votL, List.mem_map, List.mem_filter] at h
  obtain ⟨⟨x, d⟩, ⟨he, _⟩, rfl⟩ := h
  obtain ⟨hx, hd⟩ := (mem_evs ins x d).1 he
  have h1 := ixN_get (spansL_pw (rowL 0 ins ++ rowL 1 ins)) (turn_fs (List.mem_filter.1 hx).1 hd)
  exact ⟨(List.getElem?_eq_some_iff.1 h1).1, Nat.mod_lt _ (by decide)⟩

theorem turns_count (F T d : Int) (q : Int → Bool) (hq : ∀ d' ∈ turnsL F T, q d' = decide (d' = d)) : (turnsL F T).countP q = (if fromB F d = true then 1 else 0) + (if toB T d = true then 1 else 0) := by
  unfold turnsL at hq ⊢
  rw [List.countP_append]
  congr 1
  · by_cases hF : F = -2147483648
    · simp [hF, fromB]
    · have h1 := hq F (by simp [hF])
      simp [hF, fromB, h1]
  · by_cases hT : T = 2147483647
    · simp [hT, toB]
    · have h1 := hq (T + 1) (by simp [hT])
      simp [hT, toB, h1]

theorem sumN_congr {f g : InD → Nat} {X : List InD} (h : ∀ x ∈ X, f x = g x) : sumN f X = sumN g X := by
  unfold sumN
  rw [List.map_congr_left h]

theorem vot_count (ins : List InD) (p : Nat × Nat) (d : Int) (hd : (fsL ins)[p.1]? = some d) : (votL (fsL ins) (vtL (selX 2 ins)) (evs (selX 1 ins))).countP (fun v => v == p) = sumN (addE ins p.2 d) (selX 5 ins) := by
  have e : (votL (fsL ins) (vtL (selX 2 ins)) (evs (selX 1 ins))).countP (fun v => v == p) = (evs (ins.filter (sel 1))).countP fun e => vtL (selX 2 ins) (e.1.s % 4) && ((ixN (fsL ins) e.2, e.1.o % 4) == p) := by
    simp only [votL, List.countP_map, List.countP_filter]
    congr 1
    funext e
    simp [Bool.and_comm]
  rw [e, evs_count]
  refine sumN_congr (fun x hx => ?_)
  simp only [vt_eq]
  unfold addE
  obtain ⟨s, o⟩ := p
  simp only at hd ⊢
  by_cases h : voteB (x.s % 4) ins = true ∧ x.o % 4 = o
  · rw [if_pos h]
    refine turns_count _ _ _ _ (fun d' hd' => ?_)
    rw [h.1, h.2, Bool.true_and]
    have hin := ixN_get (spansL_pw (rowL 0 ins ++ rowL 1 ins)) (turn_fs (List.mem_filter.1 hx).1 hd')
    have hb : (ixN (fsL ins) d' = s) ↔ d' = d := by
      constructor
      · intro h; subst h
        have : (fsL ins)[ixN (fsL ins) d']? = some d' := hin
        rw [this] at hd; exact Option.some.inj hd
      · intro h; subst h
        exact ixN_at (spansL_pw _) hd
    by_cases hs : ixN (fsL ins) d' = s
    · rw [hs]
      simp only [hb.1 hs]
      simp
    · have : ¬ d' = d := fun h => hs (hb.2 h)
      simp [hs, this]
  · rw [if_neg h]
    have : ∀ d', (voteB (x.s % 4) ins && ((ixN (fsL ins) d', x.o % 4) == (s, o))) = false := fun d' => by
      by_cases h1 : voteB (x.s % 4) ins = true
      · have h2 : ¬ x.o % 4 = o := fun h2 => h ⟨h1, h2⟩
        simp [h1, h2]
      · simp [h1]
    simp [this]

/-- What the voters' row holds: as the law asks. -/
structure PS (ins : List InD) (ps : List (Nat × Nat)) : Prop where
  len : ps.length = sumN (addW ins) (selX 5 ins)
  mem : ∀ p ∈ ps, p.1 < (fsL ins).length ∧ p.2 < 4
  cnt : ∀ p d, (fsL ins)[p.1]? = some d → ps.countP (fun v => v == p) = sumN (addE ins p.2 d) (selX 5 ins)
  ord : ps.Pairwise (fun a b => bd a.1 ≤ bd b.1)
theorem ps_of {ins : List InD} {ps : List (Nat × Nat)} (hp : ps.Perm (votL (fsL ins) (vtL (selX 2 ins)) (evs (selX 1 ins)))) (hs : ps.Pairwise (fun a b => bd a.1 ≤ bd b.1)) : PS ins ps :=
  ⟨by rw [hp.length_eq, vot_len], fun p h => vot_mem (hp.mem_iff.1 h), fun p d hd => by rw [hp.countP_eq]; exact vot_count ins p d hd, hs⟩
end Go.Proofs.YbulkagqaDoor
