import Derived.Test.YbulkagqaDoorE3
import Derived.Deep.RegionHeld3
namespace Go.Proofs.YbulkagqaDoor
open Go.RowKit Go.Lib
set_option linter.unusedVariables false
set_option linter.unusedSimpArgs false

/-- One drawn tie. -/
structure InD where
  s : Nat
  r : Nat
  o : Nat
  F : Int
  T : Int

structure InD.ok (x : InD) : Prop where
  s : x.s < 256
  r : x.r < 256
  o : x.o < 256
  F0 : -2147483648 ≤ x.F
  F1 : x.F ≤ 2147483647
  T0 : -2147483648 ≤ x.T
  T1 : x.T ≤ 2147483647

structure InAt (w : World) (b o : Nat) (x : InD) : Prop where
  c0 : w.cell? ⟨b, o, none⟩ = some (.int .u8 x.s)
  c1 : w.cell? ⟨b, o + 1, none⟩ = some (.int .u8 x.r)
  c2 : w.cell? ⟨b, o + 2, none⟩ = some (.int .u8 x.o)
  c3 : w.cell? ⟨b, o + 3, none⟩ = some (.int .i32 x.F)
  c4 : w.cell? ⟨b, o + 4, none⟩ = some (.int .i32 x.T)

def InsAt (w : World) (a : Option Addr) (ins : List InD) : Prop := ∀ k x, ins[k]? = some x → x.ok ∧ ∃ b off, a = some ⟨b, off, none⟩ ∧ InAt w b (off + k * 5) x ∧ b < w.heap.size

def tieOf (x : InD) : TieD := { subj := nm (x.s % 4), rel := rl (x.r % 11), obj := nm (x.o % 4), F := x.F, T := x.T, L := 0 }

/-- Which of the six rows takes a tie: owned, other, seats, kin, turned, posts. -/
def sel (j : Nat) (x : InD) : Bool :=
  match j with
  | 0 => decide (x.r % 11 ≤ 1 ∨ x.r % 11 = 10)
  | 1 => !decide (x.r % 11 ≤ 1 ∨ x.r % 11 = 10)
  | 2 => decide (1 ≤ x.r % 11 ∧ x.r % 11 ≤ 3 ∧ x.o % 4 = 0)
  | 3 => decide (7 ≤ x.r % 11 ∧ x.r % 11 ≤ 9)
  | 4 => decide (x.r % 11 ≤ 1 ∨ x.r % 11 = 10 ∨ (7 ≤ x.r % 11 ∧ x.r % 11 ≤ 9))
  | _ => decide (2 ≤ x.r % 11 ∧ x.r % 11 ≤ 6)
def rowL (j : Nat) (xs : List InD) : List TieD := (xs.filter (sel j)).map tieOf
def voteB (i : Nat) (xs : List InD) : Bool := xs.any fun x => sel 2 x && (x.s % 4 == i)

theorem rowL_snoc (j : Nat) (xs : List InD) (x : InD) : rowL j (xs ++ [x]) = rowL j xs ++ (if sel j x = true then [tieOf x] else []) := by
  simp [rowL, List.filter_append]
  split <;> simp_all
theorem voteB_snoc (i : Nat) (xs : List InD) (x : InD) : voteB i (xs ++ [x]) = (voteB i xs || (sel 2 x && (x.s % 4 == i))) := by
  simp [voteB]
theorem rowL_len (j : Nat) (xs : List InD) : (rowL j xs).length ≤ xs.length := by
  simp [rowL]; exact List.length_filter_le _ _

/-- The set's own cells. -/
structure SetAt (w : World) (bs : Nat) (vT vP : Value) (f : Nat → Bool) : Prop where
  c0 : w.cell? ⟨bs, 0, none⟩ = some (.pointer none)
  c1 : w.cell? ⟨bs, 1, none⟩ = some vT
  c2 : w.cell? ⟨bs, 2, none⟩ = some vP
  v0 : w.cell? ⟨bs, 3, none⟩ = some (.bool (f 0))
  v1 : w.cell? ⟨bs, 4, none⟩ = some (.bool (f 1))
  v2 : w.cell? ⟨bs, 5, none⟩ = some (.bool (f 2))
  v3 : w.cell? ⟨bs, 6, none⟩ = some (.bool (f 3))
  fz : ∀ i, w.frozen? ⟨bs, i, none⟩ = false

theorem SetAt.kept {w w' : World} {bs : Nat} {vT vP : Value} {f : Nat → Bool} (h : SetAt w bs vT vP f) (hb : w'.heap[bs]? = w.heap[bs]?) : SetAt w' bs vT vP f := by
  have e : ∀ o, w'.cell? ⟨bs, o, none⟩ = w.cell? ⟨bs, o, none⟩ := fun o => World.cell?_of_block (a := ⟨bs, o, none⟩) hb
  exact ⟨(e _).trans h.c0, (e _).trans h.c1, (e _).trans h.c2, (e _).trans h.v0, (e _).trans h.v1, (e _).trans h.v2, (e _).trans h.v3, fun i => (World.frozen?_of_block (a := ⟨bs, i, none⟩) hb).trans (h.fz i)⟩

theorem SetAt.setT {w : World} {bs : Nat} {vT vP : Value} {f : Nat → Bool} (h : SetAt w bs vT vP f) (v : Value) : SetAt (w.setCell ⟨bs, 1, none⟩ v) bs v vP f := by
  have o : ∀ i, i ≠ 1 → (w.setCell ⟨bs, 1, none⟩ v).cell? ⟨bs, i, none⟩ = w.cell? ⟨bs, i, none⟩ := fun i hi => World.cell?_setCell_other w ⟨bs, 1, none⟩ ⟨bs, i, none⟩ v (by intro e; exact hi (congrArg Addr.off e).symm)
  exact ⟨(o 0 (by decide)).trans h.c0, World.cell?_setCell_same w _ _ h.c1, (o 2 (by decide)).trans h.c2, (o 3 (by decide)).trans h.v0, (o 4 (by decide)).trans h.v1, (o 5 (by decide)).trans h.v2, (o 6 (by decide)).trans h.v3, fun i => (World.frozen?_setCell w _ _ _).trans (h.fz i)⟩
theorem SetAt.setP {w : World} {bs : Nat} {vT vP : Value} {f : Nat → Bool} (h : SetAt w bs vT vP f) (v : Value) : SetAt (w.setCell ⟨bs, 2, none⟩ v) bs vT v f := by
  have o : ∀ i, i ≠ 2 → (w.setCell ⟨bs, 2, none⟩ v).cell? ⟨bs, i, none⟩ = w.cell? ⟨bs, i, none⟩ := fun i hi => World.cell?_setCell_other w ⟨bs, 2, none⟩ ⟨bs, i, none⟩ v (by intro e; exact hi (congrArg Addr.off e).symm)
  exact ⟨(o 0 (by decide)).trans h.c0, (o 1 (by decide)).trans h.c1, World.cell?_setCell_same w _ _ h.c2, (o 3 (by decide)).trans h.v0, (o 4 (by decide)).trans h.v1, (o 5 (by decide)).trans h.v2, (o 6 (by decide)).trans h.v3, fun i => (World.frozen?_setCell w _ _ _).trans (h.fz i)⟩
theorem SetAt.setV {w : World} {bs : Nat} {vT vP : Value} {f f' : Nat → Bool} (h : SetAt w bs vT vP f) (k : Nat) (hk : k < 4) (hf : ∀ i, f' i = (f i || (k == i))) : SetAt (w.setCell ⟨bs, 3 + k, none⟩ (.bool true)) bs vT vP f' := by
  have o : ∀ i, i ≠ 3 + k → (w.setCell ⟨bs, 3 + k, none⟩ (.bool true)).cell? ⟨bs, i, none⟩ = w.cell? ⟨bs, i, none⟩ := fun i hi => World.cell?_setCell_other w ⟨bs, 3 + k, none⟩ ⟨bs, i, none⟩ _ (by intro e; exact hi (congrArg Addr.off e).symm)
  have s : ∀ i u, w.cell? ⟨bs, 3 + i, none⟩ = some u → u = .bool (f i) → (w.setCell ⟨bs, 3 + k, none⟩ (.bool true)).cell? ⟨bs, 3 + i, none⟩ = some (.bool (f' i)) := by
    intro i u hu e
    by_cases hi : i = k
    · subst hi
      rw [hf]
      simpa using World.cell?_setCell_same w _ _ hu
    · rw [hf, o (3 + i) (by omega), hu, e]
      have : (k == i) = false := by simp; omega
      simp [this]
  exact ⟨(o 0 (by omega)).trans h.c0, (o 1 (by omega)).trans h.c1, (o 2 (by omega)).trans h.c2, s 0 _ h.v0 rfl, s 1 _ h.v1 rfl, s 2 _ h.v2 rfl, s 3 _ h.v3 rfl, fun i => (World.frozen?_setCell w _ _ _).trans (h.fz i)⟩

/-- The loop's invariant. -/
structure BInv (w0 w : World) (bs : Nat) (R : Nat → Value × List TieD) (xs : List InD) : Prop where
  rows : Rws w bs bs R
  set : SetAt w bs (R 4).1 (R 5).1 (fun i => voteB i xs)
  lists : ∀ j, j < 6 → (R j).2 = rowL j xs
  below : Below w0.heap.size w0 w
  lt : bs < w.heap.size
  ge : w0.heap.size ≤ bs

/-- Inside a round, behind the tie's making. -/
structure Mid (w0 w : World) (bs bt : Nat) (R : Nat → Value × List TieD) (t : TieD) (f : Nat → Bool) (vT vP : Value) : Prop where
  rows : Rws w bs bt R
  tie : TieAt w bt 0 t
  set : SetAt w bs vT vP f
  below : Below w0.heap.size w0 w
  ge : w0.heap.size ≤ bs
  lt : bs < w.heap.size
  btl : bt < w.heap.size
  bsb : bs < bt

theorem Mid.setT {w0 w : World} {bs bt : Nat} {R : Nat → Value × List TieD} {t : TieD} {f : Nat → Bool} {vT vP : Value} (h : Mid w0 w bs bt R t f vT vP) (v : Value) : Mid w0 (w.setCell ⟨bs, 1, none⟩ v) bs bt R t f v vP :=
  ⟨h.rows.kept (fun k hk _ => Below.heap_setCell _ _ _ k (Nat.ne_of_gt hk)), h.tie.kept (Below.heap_setCell _ _ _ bt (Nat.ne_of_gt h.bsb)), h.set.setT v, h.below.setCell h.ge v, h.ge, by simp [World.setCell]; exact h.lt, by simp [World.setCell]; exact h.btl, h.bsb⟩
theorem Mid.setP {w0 w : World} {bs bt : Nat} {R : Nat → Value × List TieD} {t : TieD} {f : Nat → Bool} {vT vP : Value} (h : Mid w0 w bs bt R t f vT vP) (v : Value) : Mid w0 (w.setCell ⟨bs, 2, none⟩ v) bs bt R t f vT v :=
  ⟨h.rows.kept (fun k hk _ => Below.heap_setCell _ _ _ k (Nat.ne_of_gt hk)), h.tie.kept (Below.heap_setCell _ _ _ bt (Nat.ne_of_gt h.bsb)), h.set.setP v, h.below.setCell h.ge v, h.ge, by simp [World.setCell]; exact h.lt, by simp [World.setCell]; exact h.btl, h.bsb⟩
theorem Mid.setV {w0 w : World} {bs bt : Nat} {R : Nat → Value × List TieD} {t : TieD} {f f' : Nat → Bool} {vT vP : Value} (h : Mid w0 w bs bt R t f vT vP) (k : Nat) (hk : k < 4) (hf : ∀ i, f' i = (f i || (k == i))) : Mid w0 (w.setCell ⟨bs, 3 + k, none⟩ (.bool true)) bs bt R t f' vT vP :=
  ⟨h.rows.kept (fun k hk _ => Below.heap_setCell _ _ _ k (Nat.ne_of_gt hk)), h.tie.kept (Below.heap_setCell _ _ _ bt (Nat.ne_of_gt h.bsb)), h.set.setV k hk hf, h.below.setCell h.ge _, h.ge, by simp [World.setCell]; exact h.lt, by simp [World.setCell]; exact h.btl, h.bsb⟩

theorem mid_append {ops : Array Oper} {rest : List Oper} {o : Oper} {a : Act} {Q : Exit → Act → World → Prop} (hgd : o.guard = none) (s x : Operand)
    (ho : o.op = .call { callee := .builtin .append, args := #[s, x], argTypes := #[24, 24] })
    (w0 w : World) (bs bt : Nat) (R : Nat → Value × List TieD) (t : TieD) (f : Nat → Bool) (vT vP : Value) (h : Mid w0 w bs bt R t f vT vP) (j : Nat) (hj : j < 6) (hs : a.eval s = (R j).1) (hx : a.eval x = .slice (some ⟨w.heap.size, 0, none⟩) 1 1)
    (hlen : (R j).2.length ≤ 256) (W : World) (hW : W = w.alloc (.cells t.cells.toArray 53))
    (hh : ∀ g c w', Mid w0 w' bs bt (upd R j (.slice (some ⟨g, 0, none⟩) ((R j).2.length + 1) c, (R j).2 ++ [t])) t f vT vP → wpList Ybad.prog ops Q rest (a.put o.dst (.slice (some ⟨g, 0, none⟩) ((R j).2.length + 1) c)) w') : wpList Ybad.prog ops Q (o :: rest) a W := by
  subst hW
  have hz : (w.alloc (.cells t.cells.toArray 53)).heap.size = w.heap.size + 1 := by simp
  have hr : Rws (w.alloc (.cells t.cells.toArray 53)) bs bt R := h.rows.kept (fun k _ hk => Below.heap_alloc _ _ k hk)
  refine rows_append hgd s x ho _ bs bt R hr (by rw [hz]; exact Nat.lt_succ_of_lt h.lt) (by rw [hz]; exact Nat.lt_succ_of_lt h.btl) j hj hs w.heap.size hx t (tie_news w t 53 w.heap.size rfl) hlen ?_
  intro g c w' hR hg ht hb
  refine hh g c w' ⟨hR, h.tie.kept (ht.trans (Below.heap_alloc _ _ bt h.btl)), h.set.kept ((hb.block bs (Nat.lt_succ_self _)).trans (Below.heap_alloc _ _ bs h.lt)), ?_, h.ge, ?_, ?_, h.bsb⟩
  · exact (h.below.alloc (Nat.le_of_lt (Nat.lt_of_le_of_lt h.ge h.lt)) _).trans (hb.mono (Nat.le_succ_of_le h.ge))
  · have := hb.size; have := h.lt; omega
  · have := hb.size; have := h.btl; omega

theorem binv_step {w0 w : World} {bs bt k : Nat} {R R' : Nat → Value × List TieD} {t : TieD} {f : Nat → Bool} {ins : List InD} {x : InD} {vT vP : Value} (h : Mid w0 w bs bt R' t f vT vP) (hvT : vT = (R' 4).1) (hvP : vP = (R' 5).1) (hx : ins[k]? = some x) (hl : ∀ j, j < 6 → (R j).2 = rowL j (ins.take k))
    (hf : ∀ i, f i = (voteB i (ins.take k) || (sel 2 x && (x.s % 4 == i)))) (hR : ∀ j, j < 6 → (R' j).2 = (R j).2 ++ (if sel j x = true then [tieOf x] else [])) : BInv w0 w bs R' (ins.take (k + 1)) := by
  subst hvT hvP
  have hs := take_snoc ins k x hx
  refine ⟨h.rows.home, ?_, fun j hj => ?_, h.below, h.lt, h.ge⟩
  · have e : (fun i => voteB i (ins.take (k + 1))) = f := by
      funext i
      rw [hs, voteB_snoc, hf]
    rw [e]
    exact h.set
  · rw [hR j hj, hs, rowL_snoc, hl j hj]

theorem rel_of {w wr : World} {bs k n : Nat} {R' : Nat → Value × List TieD} {ins : List InD} {s4 s5 s6 s7 s14 : Value} (HB : BInv w wr bs R' (ins.take (k + 1))) (hk : k + 1 ≤ n) (h14 : s14 = .int .i64 ((k + 1 : Nat) : Int))
    (h4 : s4 = (R' 0).1) (h5 : s5 = (R' 1).1) (h6 : s6 = (R' 2).1) (h7 : s7 = (R' 3).1) :
    ∃ (k : Nat) (R : Nat → Value × List TieD), k ≤ n ∧ s14 = .int .i64 k ∧ s4 = (R 0).1 ∧ s5 = (R 1).1 ∧ s6 = (R 2).1 ∧ s7 = (R 3).1 ∧ BInv w wr bs R (ins.take k) := ⟨k + 1, R', hk, h14, h4, h5, h6, h7, HB⟩

theorem six {p : Nat → Prop} (h0 : p 0) (h1 : p 1) (h2 : p 2) (h3 : p 3) (h4 : p 4) (h5 : p 5) : ∀ j, j < 6 → p j := by
  intro j hj
  have hc : j = 0 ∨ j = 1 ∨ j = 2 ∨ j = 3 ∨ j = 4 ∨ j = 5 := by omega
  rcases hc with rfl | rfl | rfl | rfl | rfl | rfl <;> assumption
theorem sel_t {l : List TieD} {j : Nat} {x : InD} {t : TieD} (h : sel j x = true) (ht : tieOf x = t) : l ++ [t] = l ++ (if sel j x = true then [tieOf x] else []) := by rw [h, ht]; rfl
theorem sel_f {l : List TieD} {j : Nat} {x : InD} (h : sel j x = false) : l = l ++ (if sel j x = true then [tieOf x] else []) := by rw [h]; simp
end Go.Proofs.YbulkagqaDoor
