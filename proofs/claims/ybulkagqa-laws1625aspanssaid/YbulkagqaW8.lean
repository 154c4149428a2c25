import Derived.Test.YbulkagqaW7
namespace Go.Proofs.Ybulkagqa
open Go.RowKit
set_option linter.unusedVariables false
set_option linter.unusedSimpArgs false

theorem getD_elem (l : List Int) (d : Int) {j : Nat} (h : j < l.length) : l.getD j d = l[j] := by simp [List.getD, h]

/-! ### The plain law: over one span the same ties are in force -/
theorem count_split (d : Int) : ∀ (fs : List Int), fs.Pairwise (· < ·) → ∀ j, j < fs.length → (fs.getD j 0 ≤ d ↔ j < fs.countP (· ≤ d))
  | [], _, j, hj => by simp at hj
  | a :: r, hp, j, hj => by
    obtain ⟨ha, hr⟩ := List.pairwise_cons.1 hp
    have ih := count_split d r hr
    rw [List.countP_cons]
    by_cases hd : a ≤ d
    · rw [if_pos (by simpa using hd)]
      cases j with
      | zero => simp [hd]
      | succ j =>
        have := ih j (by simpa using hj)
        simp only [List.getD_cons_succ]
        rw [this]; omega
    · rw [if_neg (by simpa using hd)]
      have h0 : r.countP (· ≤ d) = 0 := by
        rw [List.countP_eq_zero]
        intro x hx; have := ha x hx; simp; omega
      rw [h0]
      cases j with
      | zero => simp; omega
      | succ j =>
        have hj' : j < r.length := by simpa using hj
        have := ha r[j] (List.getElem_mem hj')
        simp only [List.getD_cons_succ]
        rw [getD_elem _ _ hj']
        omega

theorem getD_mono (fs : List Int) (hp : fs.Pairwise (· < ·)) (i j : Nat) (hij : i ≤ j) (hj : j < fs.length) : fs.getD i 0 ≤ fs.getD j 0 := by
  rcases Nat.lt_or_ge i j with h | h
  · have := List.pairwise_iff_getElem.1 hp i j (by omega) hj h
    rw [getD_elem _ _ (by omega), getD_elem _ _ hj]; omega
  · have : i = j := by omega
    subst this; exact Int.le_refl _

theorem last_le (fs : List Int) (hp : fs.Pairwise (· < ·)) (d : Int) (i : Nat) (hi : fs.countP (· ≤ d) = i + 1) : i < fs.length ∧ fs.getD i 0 ≤ d ∧ ∀ x ∈ fs, x ≤ d → x ≤ fs.getD i 0 := by
  have hle := List.countP_le_length (p := fun x => decide (x ≤ d)) (l := fs)
  have hil : i < fs.length := by omega
  refine ⟨hil, (count_split d fs hp i hil).2 (by omega), fun x hx hxd => ?_⟩
  obtain ⟨j, hj, rfl⟩ := List.getElem_of_mem hx
  have := (count_split d fs hp j hj).1 (by rw [getD_elem _ _ hj]; exact hxd)
  have := getD_mono fs hp j i (by omega) hil
  rw [getD_elem _ _ hj] at this
  exact this

theorem mem_spans (ts : List TieD) (x : Int) : x ∈ spansL ts ↔ x = -2147483648 ∨ ∃ t ∈ ts, x ∈ turnsL t.F t.T := by
  unfold spansL; rw [ddSort_mem]
  unfold firstsL turnsAll
  rw [List.mem_cons, List.mem_flatMap]

theorem turnsL_from {F T : Int} (h : F ≠ -2147483648) : F ∈ turnsL F T := by simp [turnsL, h]
theorem turnsL_to {F T : Int} (h : T ≠ 2147483647) : T + 1 ∈ turnsL F T := by
  unfold turnsL; rw [if_neg h]; exact List.mem_append_right _ (by simp)

/-- All data in range. -/
def InRange (ts : List TieD) : Prop := ∀ t ∈ ts, -2147483648 ≤ t.F ∧ t.F ≤ 2147483647 ∧ -2147483648 ≤ t.T ∧ t.T ≤ 2147483647

theorem spans_low (ts : List TieD) (h : InRange ts) (x : Int) (hx : x ∈ spansL ts) : -2147483648 ≤ x := by
  rcases (mem_spans ts x).1 hx with rfl | ⟨t, ht, hxt⟩
  · omega
  · obtain ⟨a, b, c, d⟩ := h t ht
    unfold turnsL at hxt
    rcases List.mem_append.1 hxt with h1 | h1
    · split at h1 <;> simp at h1; omega
    · split at h1 <;> simp at h1; omega

theorem spans_head (ts : List TieD) (h : InRange ts) : (spansL ts).getD 0 0 = -2147483648 ∧ 0 < (spansL ts).length := by
  have hm : (-2147483648 : Int) ∈ spansL ts := (mem_spans ts _).2 (Or.inl rfl)
  have hl : 0 < (spansL ts).length := List.length_pos_of_mem hm
  refine ⟨?_, hl⟩
  obtain ⟨j, hj, e⟩ := List.getElem_of_mem hm
  have h1 := getD_mono (spansL ts) (ddSort_pairwise _) 0 j (by omega) hj
  rw [getD_elem _ _ hj, e] at h1
  have h2 := spans_low ts h ((spansL ts).getD 0 0) (by rw [getD_elem _ _ hl]; exact List.getElem_mem hl)
  omega

theorem onL_span (ts : List TieD) (h : InRange ts) (d : Int) (hd0 : -2147483648 ≤ d) (hd1 : d ≤ 2147483647) (i : Nat) (hi : (spansL ts).countP (· ≤ d) = i + 1) : onL ((spansL ts).getD i 0) ts = onL d ts := by
  obtain ⟨hil, hfd, hmax⟩ := last_le (spansL ts) (ddSort_pairwise _) d i hi
  have hlow := spans_low ts h ((spansL ts).getD i 0) (by rw [getD_elem _ _ hil]; exact List.getElem_mem hil)
  unfold onL
  refine List.filter_congr fun t ht => ?_
  obtain ⟨a, b, c, e⟩ := h t ht
  have h1 : t.F ≤ (spansL ts).getD i 0 ↔ t.F ≤ d := by
    constructor
    · intro; omega
    · intro hF
      by_cases e0 : t.F = -2147483648
      · omega
      · exact hmax _ ((mem_spans ts _).2 (Or.inr ⟨t, ht, turnsL_from e0⟩)) hF
  have h2 : (spansL ts).getD i 0 ≤ t.T ↔ d ≤ t.T := by
    constructor
    · intro hT
      by_cases e0 : t.T = 2147483647
      · omega
      · rcases Int.lt_or_le t.T d with hl | hl
        · have := hmax _ ((mem_spans ts _).2 (Or.inr ⟨t, ht, turnsL_to e0⟩)) (by omega)
          omega
        · exact hl
    · intro; omega
  unfold inF
  simp only [h1, h2]

/-! ### The days' loop: what holds at each round's head -/
abbrev fnV (bI bL : Nat) : Value := .func (.func 4) #[] #[.pointer (some ⟨bI, 0, none⟩), .pointer (some ⟨bL, 0, none⟩)]

/-- The order of the call's own blocks. -/
structure Places (N bI bL bs gF gB gS gT B : Nat) : Prop where
  nI : N ≤ bI
  iL : bI < bL
  lB : bL < B
  sB : bs < B
  fB : gF < B
  bB : gB < B
  seB : gS < B
  tB : gT < B
  s_ne : bs ≠ bI ∧ bs ≠ bL ∧ gF ≠ bI ∧ gF ≠ bL ∧ gB ≠ bI ∧ gB ≠ bL ∧ gS ≠ bI ∧ gS ≠ bL ∧ gT ≠ bI ∧ gT ≠ bL
  b_ne : gB ≠ bs ∧ gB ≠ gF ∧ gB ≠ gS ∧ gB ≠ gT
  se_ne : gS ≠ bs ∧ gS ≠ gF ∧ gS ≠ gT
  low : N ≤ bs ∧ N ≤ gF ∧ N ≤ gB ∧ N ≤ gS ∧ N ≤ gT

structure Inv (w0 wr : World) (bI bL bs gF cF gB gS gT cT B : Nat) (ts : List TieD) (fs : List Int) (bt : Nat → Option Nat) (vI vL : Value) (LI LL : List Value) : Prop where
  sh : Sh wr bs gF cF gB fs.length (.slice (some ⟨gT, 0, none⟩) ts.length cT) (fnV bI bL) fs bt
  sn : ∀ j, j < fs.length → wr.cell? ⟨gS, j, none⟩ = some (.pointer (ptr (bt j)))
  sf : ∀ j, j < fs.length → wr.frozen? ⟨gS, j, none⟩ = false
  tt : TiesAt wr (.slice (some ⟨gT, 0, none⟩) ts.length cT) ts
  pp : ∀ j pb, j < fs.length → bt j = some pb → wr.cell? ⟨pb, 0, none⟩ = some (.int .i64 j) ∧ B ≤ pb ∧ vI.ownBlock ≠ some pb ∧ vL.ownBlock ≠ some pb
  cI : wr.cell? ⟨bI, 0, none⟩ = some vI
  fI : wr.frozen? ⟨bI, 0, none⟩ = false
  cL : wr.cell? ⟨bL, 0, none⟩ = some vL
  fL : wr.frozen? ⟨bL, 0, none⟩ = false
  oI : wr.ownsRow B 3 1 vI LI.length LI
  oL : wr.ownsRow B 29 1 vL LL.length LL
  nn : LI.length = LL.length
  hne : ∀ k, vI.ownBlock = some k → vL.ownBlock ≠ some k
  hBw : B ≤ wr.heap.size
  bel : Below w0.heap.size w0 wr

theorem Sh.of_heap {w w' : World} {bs gF cF gB cB : Nat} {tv fv : Value} {fs : List Int} {bt : Nat → Option Nat} (h : Sh w bs gF cF gB cB tv fv fs bt) (hs : w'.heap[bs]? = w.heap[bs]?) (hF : w'.heap[gF]? = w.heap[gF]?) (hB : w'.heap[gB]? = w.heap[gB]?) : Sh w' bs gF cF gB cB tv fv fs bt := by
  have es : ∀ o, w'.cell? ⟨bs, o, none⟩ = w.cell? ⟨bs, o, none⟩ := fun o => World.cell?_of_block (a := ⟨bs, o, none⟩) hs
  exact ⟨(es _).trans h.s0, (es _).trans h.s1, (es _).trans h.s2, (es _).trans h.s3, fun j hj => (World.cell?_of_block (a := ⟨gF, j, none⟩) hF).trans (h.ff j hj), fun j hj => (World.cell?_of_block (a := ⟨gB, j, none⟩) hB).trans (h.bb j hj), fun j hj => (World.frozen?_of_block (a := ⟨gB, j, none⟩) hB).trans (h.bf j hj)⟩

theorem Inv.eqv {w0 wr wr' : World} {bI bL bs gF cF gB gS gT cT B : Nat} {ts : List TieD} {fs : List Int} {bt : Nat → Option Nat} {vI vL : Value} {LI LL : List Value} (h : Inv w0 wr bI bL bs gF cF gB gS gT cT B ts fs bt vI vL LI LL) (e : Eqv wr' wr) : Inv w0 wr' bI bL bs gF cF gB gS gT cT B ts fs bt vI vL LI LL := by
  have hb : ∀ k : Nat, wr'.heap[k]? = wr.heap[k]? := fun k => by rw [e.heap]
  have hc : ∀ a, wr'.cell? a = wr.cell? a := fun a => World.cell?_of_block (hb _)
  have hf : ∀ a, wr'.frozen? a = wr.frozen? a := fun a => World.frozen?_of_block (hb _)
  refine ⟨h.sh.of_heap (hb _) (hb _) (hb _), fun j hj => (hc _).trans (h.sn j hj), fun j hj => (hf _).trans (h.sf j hj), h.tt.kept (fun k _ => hb k), fun j pb hj e => ?_, (hc _).trans h.cI, (hf _).trans h.fI, (hc _).trans h.cL, (hf _).trans h.fL, ownsRow_of_block h.oI (fun k _ => hb k), ownsRow_of_block h.oL (fun k _ => hb k), h.nn, h.hne, by rw [e.heap]; exact h.hBw, ?_⟩
  · rw [hc]; exact h.pp j pb hj e
  · exact ⟨e.os.trans h.bel.os, e.tape.trans h.bel.tape, e.output.trans h.bel.output, by rw [e.heap]; exact h.bel.size, fun k hk => (hb k).trans (h.bel.block k hk)⟩

theorem Eqv.drewN (w : World) (q : Nat) : Eqv (w.drewN q) w := ⟨rfl, rfl, rfl, rfl⟩

def setPb (bt : Nat → Option Nat) (i pb : Nat) : Nat → Option Nat := fun j => if j = i then some pb else bt j

/-- What the first build of a span leaves, just behind the call of 'on'. -/
structure Mid (w0 w3 : World) (bI bL bs gF cF gB gS gT cT B : Nat) (ts : List TieD) (fs : List Int) (bt : Nat → Option Nat) (vI vL : Value) (LI LL : List Value) (i pb : Nat) (ls : Value) (lines : List Int) : Prop where
  sh : Sh w3 bs gF cF gB fs.length (.slice (some ⟨gT, 0, none⟩) ts.length cT) (fnV bI bL) fs (setPb bt i pb)
  sn : ∀ j, j < fs.length → w3.cell? ⟨gS, j, none⟩ = some (.pointer (ptr (bt j)))
  sf : ∀ j, j < fs.length → w3.frozen? ⟨gS, j, none⟩ = false
  tt : TiesAt w3 (.slice (some ⟨gT, 0, none⟩) ts.length cT) ts
  pp : ∀ j q, j < fs.length → setPb bt i pb j = some q → w3.cell? ⟨q, 0, none⟩ = some (.int .i64 j) ∧ B ≤ q ∧ vI.ownBlock ≠ some q ∧ vL.ownBlock ≠ some q
  cI : w3.cell? ⟨bI, 0, none⟩ = some vI
  fI : w3.frozen? ⟨bI, 0, none⟩ = false
  cL : w3.cell? ⟨bL, 0, none⟩ = some vL
  fL : w3.frozen? ⟨bL, 0, none⟩ = false
  oI : w3.ownsRow B 3 1 vI (LI.length + 1) (LI ++ [.int .i64 i])
  oL : w3.ownsRow B 29 1 vL (LL.length + 1) (LL ++ [ls])
  ols : w3.ownsRow B 3 1 ls lines.length (lines.map (Value.int .i64))
  nn : LI.length = LL.length
  hne : ∀ k, vI.ownBlock = some k → vL.ownBlock ≠ some k
  hBw : B ≤ w3.heap.size
  bel : Below w0.heap.size w0 w3

theorem mid_of {w0 wr w1 w2 w3 : World} {bI bL bs gF cF gB gS gT cT B : Nat} {ts : List TieD} {fs : List Int} {bt : Nat → Option Nat} {vI vL vI' vL' ls : Value} {LI LL : List Value} {i pb : Nat} {lines : List Int}
    (P : Places w0.heap.size bI bL bs gF gB gS gT B) (h : Inv w0 wr bI bL bs gF cF gB gS gT cT B ts fs bt vI vL LI LL) (hi : i < fs.length)
    (hb : Below wr.heap.size wr w1) (hu : Built w1 w2 B bI bL vI vL LI.length LL.length LI LL i lines pb vI' vL' ls) (e3 : Eqv w3 (w2.setCell ⟨gB, i, none⟩ (.pointer (some ⟨pb, 0, none⟩)))) :
    Mid w0 w3 bI bL bs gF cF gB gS gT cT B ts fs bt vI' vL' LI LL i pb ls lines := by
  obtain ⟨pn, pil, plb, psb, pfb, pbb, pseb, ptb, ⟨q1, q2, q3, q4, q5, q6, q7, q8, q9, q10⟩, ⟨r1, r2, r3, r4⟩, ⟨t1, t2, t3⟩, ⟨l1, l2, l3, l4, l5⟩⟩ := P
  have s1 := hb.size
  have hB1 : B ≤ w1.heap.size := Nat.le_trans h.hBw s1
  have s2 : w1.heap.size ≤ w2.heap.size := by have := hu.pge; have := hu.plt; omega
  have hsz3 : w3.heap.size = w2.heap.size := by rw [e3.heap, setCell_size]
  have k3 : ∀ k, k ≠ gB → w3.heap[k]? = w2.heap[k]? := fun k hk => by rw [e3.heap]; exact Below.heap_setCell _ _ _ _ hk
  have k2 : ∀ k, k < B → k ≠ bI → k ≠ bL → w2.heap[k]? = wr.heap[k]? := fun k hk h1 h2 => by
    rw [hu.low h.oI h.oL hk hB1 h1 h2, hb.block k (by have := h.hBw; omega)]
  have k0 : ∀ k, k < B → k ≠ bI → k ≠ bL → k ≠ gB → w3.heap[k]? = wr.heap[k]? := fun k hk h1 h2 h3 => (k3 k h3).trans (k2 k hk h1 h2)
  have ownI : ∀ k, vI'.ownBlock = some k → B ≤ k := fun k hk => (hu.oI.lt k hk).1
  have ownL : ∀ k, vL'.ownBlock = some k → B ≤ k := fun k hk => (hu.oL.lt k hk).1
  -- built row
  have gBcell : ∀ j, j < fs.length → w2.cell? ⟨gB, j, none⟩ = some (.pointer (ptr (bt j))) := fun j hj => (World.cell?_of_block (a := ⟨gB, j, none⟩) (k2 gB pbb q5 q6)).trans (h.sh.bb j hj)
  have gBfr : ∀ j, j < fs.length → w2.frozen? ⟨gB, j, none⟩ = false := fun j hj => (World.frozen?_of_block (a := ⟨gB, j, none⟩) (k2 gB pbb q5 q6)).trans (h.sh.bf j hj)
  refine ⟨⟨?_, ?_, ?_, ?_, ?_, ?_, ?_⟩, ?_, ?_, ?_, ?_, ?_, ?_, ?_, ?_, ?_, ?_, ?_, h.nn, ?_, ?_, ?_⟩
  · exact (World.cell?_of_block (a := ⟨bs, 0, none⟩) (k0 bs psb q1 q2 (Ne.symm r1))).trans h.sh.s0
  · exact (World.cell?_of_block (a := ⟨bs, 1, none⟩) (k0 bs psb q1 q2 (Ne.symm r1))).trans h.sh.s1
  · exact (World.cell?_of_block (a := ⟨bs, 2, none⟩) (k0 bs psb q1 q2 (Ne.symm r1))).trans h.sh.s2
  · exact (World.cell?_of_block (a := ⟨bs, 3, none⟩) (k0 bs psb q1 q2 (Ne.symm r1))).trans h.sh.s3
  · exact fun j hj => (World.cell?_of_block (a := ⟨gF, j, none⟩) (k0 gF pfb q3 q4 (Ne.symm r2))).trans (h.sh.ff j hj)
  · intro j hj
    have e : w3.cell? ⟨gB, j, none⟩ = (w2.setCell ⟨gB, i, none⟩ (.pointer (some ⟨pb, 0, none⟩))).cell? ⟨gB, j, none⟩ := World.cell?_of_block (by rw [e3.heap])
    rw [e]
    unfold setPb
    by_cases hji : j = i
    · subst hji
      rw [if_pos rfl, World.cell?_setCell_same _ _ _ (gBcell j hj)]; rfl
    · rw [if_neg hji, World.cell?_setCell_other _ _ _ _ (by intro e; injection e with _ e2 _; omega)]
      exact gBcell j hj
  · intro j hj
    have e : w3.frozen? ⟨gB, j, none⟩ = (w2.setCell ⟨gB, i, none⟩ (.pointer (some ⟨pb, 0, none⟩))).frozen? ⟨gB, j, none⟩ := World.frozen?_of_block (by rw [e3.heap])
    rw [e, World.frozen?_setCell]; exact gBfr j hj
  · exact fun j hj => (World.cell?_of_block (a := ⟨gS, j, none⟩) (k0 gS pseb q7 q8 (Ne.symm r3))).trans (h.sn j hj)
  · exact fun j hj => (World.frozen?_of_block (a := ⟨gS, j, none⟩) (k0 gS pseb q7 q8 (Ne.symm r3))).trans (h.sf j hj)
  · refine h.tt.kept (fun k hk => ?_)
    obtain rfl : gT = k := by simpa [Value.ownBlock] using hk
    exact k0 gT ptb q9 q10 (Ne.symm r4)
  · intro j q hj hq
    unfold setPb at hq
    by_cases hji : j = i
    · subst hji
      rw [if_pos rfl] at hq
      obtain rfl : pb = q := by simpa using hq
      have hpge := hu.pge
      refine ⟨?_, by omega, fun e => (hu.sepI _ e).2.1 rfl, fun e => (hu.sepL _ e).2 rfl⟩
      rw [World.cell?_of_block (w := w2) (a := ⟨pb, 0, none⟩) (k3 pb (by omega))]
      exact hu.pc
    · rw [if_neg hji] at hq
      obtain ⟨c1, c2, c3, c4⟩ := h.pp j q hj hq
      have hqw : q < wr.heap.size := World.block_lt_of_cell? wr ⟨q, 0, none⟩ c1
      refine ⟨?_, c2, fun e => ?_, fun e => ?_⟩
      · rw [World.cell?_of_block (w := w2) (a := ⟨q, 0, none⟩) (k3 q (by omega)), World.cell?_of_block (w := w1) (a := ⟨q, 0, none⟩) (hu.frm q (by show q < _; omega) (by show q ≠ _; omega) (by show q ≠ _; omega) c3 c4), World.cell?_of_block (w := wr) (a := ⟨q, 0, none⟩) (hb.block q hqw)]
        exact c1
      · rcases (hu.sepI _ e).1 with h1 | h1
        · exact c3 h1
        · omega
      · rcases (hu.sepL _ e).1 with h1 | h1
        · exact c4 h1
        · omega
  · rw [World.cell?_of_block (w := w2) (a := ⟨bI, 0, none⟩) (k3 bI (Ne.symm q5))]; exact hu.cI
  · rw [World.frozen?_of_block (w := w2) (a := ⟨bI, 0, none⟩) (k3 bI (Ne.symm q5))]; exact hu.fI
  · rw [World.cell?_of_block (w := w2) (a := ⟨bL, 0, none⟩) (k3 bL (Ne.symm q6))]; exact hu.cL
  · rw [World.frozen?_of_block (w := w2) (a := ⟨bL, 0, none⟩) (k3 bL (Ne.symm q6))]; exact hu.fL
  · exact ownsRow_of_block hu.oI (fun k hk => k3 k (by have := ownI k hk; omega))
  · exact ownsRow_of_block hu.oL (fun k hk => k3 k (by have := ownL k hk; omega))
  · have h1 : w3.ownsRow w1.heap.size 3 1 ls lines.length (lines.map (Value.int .i64)) := ownsRow_of_block hu.ols (fun k hk => k3 k (by have := (hu.ols.lt k hk).1; omega))
    obtain ⟨x1, x2⟩ := h1
    refine ⟨x1, ?_⟩
    rcases x2 with x2 | ⟨g, cap, cur, hv, hg, r⟩
    · exact Or.inl x2
    · exact Or.inr ⟨g, cap, cur, hv, by omega, r⟩
  · exact fun k hk => (hu.sepI k hk).2.2
  · omega
  · refine ⟨?_, ?_, ?_, ?_, fun k hk => ?_⟩
    · exact e3.os.trans (hu.bel.os.trans (hb.os.trans h.bel.os))
    · exact e3.tape.trans (hu.bel.tape.trans (hb.tape.trans h.bel.tape))
    · exact e3.output.trans (hu.bel.output.trans (hb.output.trans h.bel.output))
    · have := h.bel.size; omega
    · rw [k3 k (by omega), hu.bel.block k (by omega), hb.block k (by have := h.bel.size; omega), h.bel.block k hk]

/-- Behind the comparison and the store into 'seen' the relation holds again. -/
theorem inv_of_mid {w0 w3 w4 w5 : World} {bI bL bs gF cF gB gS gT cT B : Nat} {ts : List TieD} {fs : List Int} {bt : Nat → Option Nat} {vI vL ls : Value} {LI LL : List Value} {i pb : Nat} {lines : List Int}
    (P : Places w0.heap.size bI bL bs gF gB gS gT B) (h : Mid w0 w3 bI bL bs gF cF gB gS gT cT B ts fs bt vI vL LI LL i pb ls lines) (hi : i < fs.length)
    (hb : Below w3.heap.size w3 w4) (e5 : Eqv w5 (w4.setCell ⟨gS, i, none⟩ (.pointer (some ⟨pb, 0, none⟩)))) :
    Inv w0 w5 bI bL bs gF cF gB gS gT cT B ts fs (setPb bt i pb) vI vL (LI ++ [.int .i64 i]) (LL ++ [ls]) := by
  obtain ⟨pn, pil, plb, psb, pfb, pbb, pseb, ptb, ⟨q1, q2, q3, q4, q5, q6, q7, q8, q9, q10⟩, ⟨r1, r2, r3, r4⟩, ⟨t1, t2, t3⟩, ⟨l1, l2, l3, l4, l5⟩⟩ := P
  have s1 := hb.size
  have hB3 := h.hBw
  have k0 : ∀ k, k < w3.heap.size → k ≠ gS → w5.heap[k]? = w3.heap[k]? := fun k hk hs => by
    rw [e5.heap, Below.heap_setCell _ _ _ _ hs, hb.block k hk]
  have lI := h.oI.lt
  have lL := h.oL.lt
  have sc : ∀ j, j < fs.length → w4.cell? ⟨gS, j, none⟩ = some (.pointer (ptr (bt j))) := fun j hj => (hb.cell (p := ⟨gS, j, none⟩) (by show gS < _; omega)).trans (h.sn j hj)
  refine ⟨h.sh.of_heap (k0 bs (by omega) (Ne.symm t1)) (k0 gF (by omega) (Ne.symm t2)) (k0 gB (by omega) r3), ?_, ?_, ?_, ?_, ?_, ?_, ?_, ?_, ?_, ?_, by simp [h.nn], h.hne, ?_, ?_⟩
  · intro j hj
    have e : w5.cell? ⟨gS, j, none⟩ = (w4.setCell ⟨gS, i, none⟩ (.pointer (some ⟨pb, 0, none⟩))).cell? ⟨gS, j, none⟩ := World.cell?_of_block (by rw [e5.heap])
    rw [e]
    unfold setPb
    by_cases hji : j = i
    · subst hji
      rw [if_pos rfl, World.cell?_setCell_same _ _ _ (sc j hj)]; rfl
    · rw [if_neg hji, World.cell?_setCell_other _ _ _ _ (by intro e; injection e with _ e2 _; omega)]
      exact sc j hj
  · intro j hj
    have e : w5.frozen? ⟨gS, j, none⟩ = (w4.setCell ⟨gS, i, none⟩ (.pointer (some ⟨pb, 0, none⟩))).frozen? ⟨gS, j, none⟩ := World.frozen?_of_block (by rw [e5.heap])
    rw [e, World.frozen?_setCell, hb.frozen (p := ⟨gS, j, none⟩) (by show gS < _; omega)]; exact h.sf j hj
  · refine h.tt.kept (fun k hk => ?_)
    obtain rfl : gT = k := by simpa [Value.ownBlock] using hk
    exact k0 gT (by omega) (Ne.symm t3)
  · intro j q hj hq
    obtain ⟨c1, c2⟩ := h.pp j q hj hq
    have hqw : q < w3.heap.size := World.block_lt_of_cell? w3 ⟨q, 0, none⟩ c1
    exact ⟨by rw [World.cell?_of_block (w := w3) (a := ⟨q, 0, none⟩) (k0 q hqw (by have := c2.1; omega))]; exact c1, c2⟩
  · rw [World.cell?_of_block (w := w3) (a := ⟨bI, 0, none⟩) (k0 bI (by omega) (Ne.symm q7))]; exact h.cI
  · rw [World.frozen?_of_block (w := w3) (a := ⟨bI, 0, none⟩) (k0 bI (by omega) (Ne.symm q7))]; exact h.fI
  · rw [World.cell?_of_block (w := w3) (a := ⟨bL, 0, none⟩) (k0 bL (by omega) (Ne.symm q8))]; exact h.cL
  · rw [World.frozen?_of_block (w := w3) (a := ⟨bL, 0, none⟩) (k0 bL (by omega) (Ne.symm q8))]; exact h.fL
  · rw [List.length_append]; exact ownsRow_of_block h.oI (fun k hk => k0 k (lI k hk).2 (by have := (lI k hk).1; omega))
  · rw [List.length_append]; exact ownsRow_of_block h.oL (fun k hk => k0 k (lL k hk).2 (by have := (lL k hk).1; omega))
  · rw [e5.heap, setCell_size]; omega
  · have := h.bel.size
    refine ⟨?_, ?_, ?_, ?_, fun k hk => ?_⟩
    · exact e5.os.trans (hb.os.trans h.bel.os)
    · exact e5.tape.trans (hb.tape.trans h.bel.tape)
    · exact e5.output.trans (hb.output.trans h.bel.output)
    · rw [e5.heap, setCell_size]; omega
    · rw [k0 k (by omega) (by omega), h.bel.block k hk]

end Go.Proofs.Ybulkagqa
