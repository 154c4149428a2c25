import Derived.WalkKit
import Derived.Lib.Walk
import Derived.Sort.Grow
import Derived.Deep.Draws
import Derived.Lib.SlicesCompact
namespace Go.Proofs.YbulkagqaDoor
open Go.RowKit Go.Sort

/-- append of one owned slice's elements onto another owned one; either may be nil. -/
theorem wpList_append_two {P : Program} (w : World) {ops : Array Oper} {rest : List Oper} {o : Oper} {a : Act} {Q : Exit → Act → World → Prop} (hgd : o.guard = none) (s x : Operand) (t : TypeId)
    (ho : o.op = .call { callee := .builtin .append, args := #[s, x], argTypes := #[t, t] })
    (base base2 : Nat) (e : TypeId) (i : TypeInfo) (z : Value) (size bytes : Nat) (ht : P.underlying t = some (.slice e)) (hi : P.info? e = some i) (hz : i.zero = some z)
    (hsize : i.size = size) (hby : i.bytes = bytes) (hzs : z.cells.size = size) (hsz : 0 < size)
    (v : Value) (n : Nat) (xs : List Value) (hs : a.eval s = v) (hown : w.ownsRow base e size v n xs)
    (v2 : Value) (m : Nat) (ys : List Value) (hx : a.eval x = v2) (hown2 : w.ownsRow base2 e size v2 m ys) (h1 : ∀ u ∈ ys, u.oneCell' = true)
    (h63 : n + m ≤ maxLen) (hbytes : (n + m) * bytes ≤ 140737488355328) (hbase : base ≤ w.heap.size)
    (h : ∀ v' w', w'.ownsRow base e size v' (n + m) (xs ++ ys) → w.grownBy w' v.ownBlock → (v' = .slice none 0 0 → v = .slice none 0 0) → wpList P ops Q rest (a.put o.dst v') w') : wpList P ops Q (o :: rest) a w := by
  rcases hown2.2 with ⟨e1, e2⟩ | ⟨g, cap, cur, e1, hg, hb, hh⟩
  · subst e1; subst e2
    have hy : ys = [] := List.eq_nil_of_length_eq_zero (by simpa using hown2.1)
    subst hy
    refine wpList_plain hgd fun _ hK => ?_
    have hr := run_append_owned_none (P := P) w base t o.type e i size ht hi v n xs hown
    unfold Oper.wp execOp
    simp only [ho, resolve, invoke, builtin, Sem.run_bind, Sem.run_pure, Result.andThen_ok, List.map_toArray, List.map_cons, List.map_nil, hs, hx, hr]
    exact hK _ _ (h v w (by simpa using hown) (World.grownBy.refl _ _) (fun e => e))
  · subst e1
    refine wpList_append_own w hgd s x t ho base e i z size bytes ht hi hz hsize hby hzs hsz v n xs hs hown ⟨g, 0, none⟩ m cap ys hx hown2.1 (hown2.cells rfl) h1 h63 hbytes hbase fun v' w' h2 h3 h4 => h v' w' h2 h3 (fun e => (h4.1 e).1)

theorem below_putRow {α : Type} [Inhabited α] {B : Nat} {a w : World} (h : Below B a w) (enc : α → Value) (blk off : Nat) (d : Array α) (hb : B ≤ blk) : Below B a (putRow enc w blk off d) := by
  refine h.trans ⟨rfl, rfl, rfl, by simp, fun k hk => ?_⟩
  have : blk ≠ k := by omega
  simp [putRow, mapBlock, Array.getElem?_modify, this]
theorem below_ahead {B : Nat} {a w : World} (h : Below B a w) (n : Nat) : Below B a (Sort.ahead w n) := ⟨h.os, h.tape, h.output, h.size, h.block⟩
theorem below_drewN {B : Nat} {a w : World} (h : Below B a w) (n : Nat) : Below B a (w.drewN n) := ⟨h.os, h.tape, h.output, h.size, h.block⟩
theorem below_grow {B : Nat} {a w : World} (h : Below B a w) (os : Array Obj) (hB : B ≤ w.heap.size) : Below B a (grow w os) :=
  h.trans ⟨rfl, rfl, rfl, by simp, fun k hk => heap_grow_old _ _ (by omega)⟩

/-- What is owned, in the sort's words. -/
theorem holds_of_owns {w : World} {base : Nat} {e : TypeId} {g cap : Nat} {k : IntKind} {zs : List Int} (h : w.ownsRow base e 1 (.slice (some ⟨g, 0, none⟩) zs.length cap) zs.length (zs.map (Value.int k))) : Holds (Value.int k) w g 0 zs.toArray := by
  intro j hj
  have hj' : j < zs.length := by simpa using hj
  refine ⟨?_, ?_⟩
  · rw [Nat.zero_add, World.ownsRow.cellAt h j (by omega), List.getElem?_map, List.getElem?_eq_getElem hj']
    simp [hj']
  · rw [Nat.zero_add]; exact World.ownsRow.frozenAt h j

/-! ### The plain laws of Sort and Compact on integers -/
abbrev leI : Int → Int → Bool := fun x y => decide (x ≤ y)
theorem pairwise_of_leI : ∀ l : List Int, l.Pairwise (fun a b => leI a b = true) → l.Pairwise (· ≤ ·)
  | [], _ => List.Pairwise.nil
  | a :: r, h => List.pairwise_cons.2 ⟨fun x hx => by have := (List.pairwise_cons.1 h).1 x hx; simpa [leI] using this, pairwise_of_leI r (List.pairwise_cons.1 h).2⟩
theorem sorted_mergeSort (zs : List Int) : (zs.mergeSort leI).Pairwise (· ≤ ·) := by
  have h := List.pairwise_mergeSort (le := leI) (fun a b c h1 h2 => by simp only [leI, decide_eq_true_eq] at *; omega) (fun a b => by simp only [leI, Bool.or_eq_true, decide_eq_true_eq]; omega) zs
  exact pairwise_of_leI _ h

/-- Consecutive duplicates dropped: what slices.Compact computes, by recursion. -/
def dd : List Int → List Int
  | [] => []
  | [x] => [x]
  | x :: y :: r => if x = y then dd (y :: r) else x :: dd (y :: r)

theorem dd_mem (x : Int) : ∀ l, x ∈ dd l ↔ x ∈ l
  | [] => Iff.rfl
  | [y] => Iff.rfl
  | y :: z :: r => by
    rw [dd]
    by_cases h : y = z
    · rw [if_pos h, dd_mem x (z :: r)]; subst h; simp
    · rw [if_neg h, List.mem_cons, dd_mem x (z :: r), List.mem_cons (l := z :: r)]

theorem dd_pairwise : ∀ l : List Int, l.Pairwise (· ≤ ·) → (dd l).Pairwise (· < ·)
  | [], _ => List.Pairwise.nil
  | [y], _ => by simp [dd]
  | y :: z :: r, h => by
    obtain ⟨h1, h2⟩ := List.pairwise_cons.1 h
    have ih := dd_pairwise (z :: r) h2
    rw [dd]
    by_cases e : y = z
    · rw [if_pos e]; exact ih
    · rw [if_neg e, List.pairwise_cons]
      refine ⟨fun x hx => ?_, ih⟩
      rw [dd_mem] at hx
      have := h1 z (by simp)
      rcases List.mem_cons.1 hx with rfl | hx
      · omega
      · have := (List.pairwise_cons.1 h2).1 x hx; omega

theorem dd_len : ∀ l : List Int, (dd l).length ≤ l.length
  | [] => Nat.le_refl _
  | [_] => Nat.le_refl _
  | y :: z :: r => by
    rw [dd]
    have := dd_len (z :: r)
    split <;> simp at * <;> omega

theorem dd_cons (x : Int) (l : List Int) : dd (x :: l) = if l.head? = some x then dd l else x :: dd l := by
  cases l with
  | nil => simp [dd]
  | cons y r => simp only [dd, List.head?_cons, Option.some.injEq]; by_cases h : x = y <;> simp [h, eq_comm]

theorem dd_snoc : ∀ (l : List Int) (x : Int), dd (l ++ [x]) = dd l ++ (if l.getLast? = some x then [] else [x])
  | [], x => by simp [dd]
  | [y], x => by
    by_cases h : y = x
    · subst h; simp [dd]
    · simp [dd, h]
  | y :: z :: r, x => by
    have ih := dd_snoc (z :: r) x
    have e1 : (y :: z :: r).getLast? = (z :: r).getLast? := by simp [List.getLast?_cons_cons]
    rw [e1, List.cons_append, List.cons_append, dd, dd]
    rw [List.cons_append] at ih
    by_cases h : y = z
    · rw [if_pos h, if_pos h]; exact ih
    · rw [if_neg h, if_neg h, ih]; simp

theorem compact_eq_dd (l : List Int) : Lib.compactUpTo l.toArray l.length = dd l := by
  suffices h : ∀ m, m ≤ l.length → Lib.compactUpTo l.toArray m = dd (l.take m) by
    have := h l.length (Nat.le_refl _); rwa [List.take_length] at this
  intro m
  induction m with
  | zero => intro _; simp [Lib.compactUpTo, dd]
  | succ m ih =>
    intro hm
    have hlt : m < l.length := by omega
    rw [Lib.compactUpTo_succ, ih (by omega), List.take_succ_eq_append_getElem hlt, dd_snoc]
    congr 1
    have e0 : l.toArray[m]! = l[m] := by simp [hlt]
    by_cases h0 : m = 0
    · subst h0
      rw [show Lib.keeps l.toArray 0 = true by simp [Lib.keeps]]
      simp [hlt]
    · have hl1 : m - 1 < l.length := by omega
      have e1 : l.toArray[m - 1]! = l[m - 1] := by simp [hl1]
      have e2 : (l.take m).getLast? = some l[m - 1] := by
        rw [List.getLast?_take, if_neg h0, List.getElem?_eq_getElem hl1]; simp
      rw [e2, e0]
      by_cases h : l[m] = l[m - 1]
      · rw [Lib.keeps_neg (by omega) (by rw [e0, e1]; exact h)]; simp [h]
      · rw [Lib.keeps_pos (by rw [e0, e1]; exact h)]
        have : ¬ l[m - 1] = l[m] := fun e => h e.symm
        simp [this]

/-- The list that Sort and Compact make. -/
def ddSort (zs : List Int) : List Int := dd (zs.mergeSort leI)
theorem ddSort_mem (zs : List Int) (x : Int) : x ∈ ddSort zs ↔ x ∈ zs := by
  unfold ddSort; rw [dd_mem]; exact (List.mergeSort_perm zs leI).mem_iff
theorem ddSort_pairwise (zs : List Int) : (ddSort zs).Pairwise (· < ·) := dd_pairwise _ (sorted_mergeSort zs)
theorem ddSort_len (zs : List Int) : (ddSort zs).length ≤ zs.length := by
  have := dd_len (zs.mergeSort leI); rw [List.length_mergeSort] at this; exact this
end Go.Proofs.YbulkagqaDoor
