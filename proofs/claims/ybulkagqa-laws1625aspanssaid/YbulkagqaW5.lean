import Derived.Test.YbulkagqaDat
import Derived.Test.YbulkagqaLaws
import Derived.Test.YbulkagqaW3
import Derived.Deep.AppendLies
namespace Go.Proofs.Ybulkagqa
open Go.RowKit
set_option linter.unusedVariables false
set_option linter.unusedSimpArgs false

theorem owns_form {w : World} {base : Nat} {e : TypeId} {size : Nat} {v : Value} {n : Nat} {xs : List Value} (h : w.ownsRow base e size v n xs) : ∃ a c, v = .slice a n c := by
  rcases h.2 with ⟨h1, h2⟩ | ⟨g, cap, cur, h1, _⟩
  · exact ⟨none, 0, by rw [h1, h2]⟩
  · exact ⟨_, _, h1⟩

theorem info3 : (Yba.prog.info? 3).map (fun i => (i.zero, i.size, i.bytes)) = some (some (.int .i64 0), 1, 8) := by kernel_rfl
theorem info29 : (Yba.prog.info? 29).map (fun i => (i.zero, i.size, i.bytes)) = some (some (.slice none 0 0), 1, 24) := by kernel_rfl

def linesL (ts : List TieD) : List Int := ts.map (·.L)

/-- What a call of the closure leaves: a new number, both logs one longer, the lines in a row of their own; nothing else of old memory has turned. -/
structure Built (w w' : World) (B bI bL : Nat) (vI vL : Value) (nI nL : Nat) (LI LL : List Value) (i : Int) (lines : List Int) (pb : Nat) (vI' vL' ls : Value) : Prop where
  pc : w'.cell? ⟨pb, 0, none⟩ = some (.int .i64 i)
  pge : w.heap.size ≤ pb
  plt : pb < w'.heap.size
  cI : w'.cell? ⟨bI, 0, none⟩ = some vI'
  fI : w'.frozen? ⟨bI, 0, none⟩ = false
  cL : w'.cell? ⟨bL, 0, none⟩ = some vL'
  fL : w'.frozen? ⟨bL, 0, none⟩ = false
  oI : w'.ownsRow B 3 1 vI' (nI + 1) (LI ++ [.int .i64 i])
  oL : w'.ownsRow B 29 1 vL' (nL + 1) (LL ++ [ls])
  ols : w'.ownsRow w.heap.size 3 1 ls lines.length (lines.map (Value.int .i64))
  sepI : ∀ k, vI'.ownBlock = some k → (vI.ownBlock = some k ∨ w.heap.size ≤ k) ∧ k ≠ pb ∧ vL'.ownBlock ≠ some k
  sepL : ∀ k, vL'.ownBlock = some k → (vL.ownBlock = some k ∨ w.heap.size ≤ k) ∧ k ≠ pb
  frm : ∀ k, k < w.heap.size → k ≠ bI → k ≠ bL → vI.ownBlock ≠ some k → vL.ownBlock ≠ some k → w'.heap[k]? = w.heap[k]?
  bel : Below bI w w'

theorem one_news (W : World) (v : Value) (e : TypeId) (N : Nat) (hN : N = W.heap.size) : ∀ j u, [v][j]? = some u → (W.alloc (.cells #[v] e)).cell? ((⟨N, 0, none⟩ : Addr).add j) = some u := by
  intro j u hj
  subst hN
  match j, hj with
  | 0, hj =>
    simp at hj; subst hj
    show (W.alloc (.cells #[v] e)).cell? ⟨W.heap.size, 0, none⟩ = _
    rw [World.cell?_alloc_new]; rfl

theorem ownsRow_of_block {w w' : World} {base : Nat} {e : TypeId} {size : Nat} {v : Value} {n : Nat} {xs : List Value} (h : w.ownsRow base e size v n xs) (hb : ∀ k, v.ownBlock = some k → w'.heap[k]? = w.heap[k]?) : w'.ownsRow base e size v n xs := by
  obtain ⟨h1, h2⟩ := h
  refine ⟨h1, ?_⟩
  rcases h2 with h2 | ⟨g, cap, cur, hv, hg, hh, r⟩
  · exact Or.inl h2
  · subst hv
    exact Or.inr ⟨g, cap, cur, rfl, hg, by rw [hb g rfl]; exact hh, r⟩

theorem setCell_size (w : World) (a : Addr) (v : Value) : (w.setCell a v).heap.size = w.heap.size := by simp [World.setCell]

theorem built_of {w wr w1 w2 : World} {B bI bL nI nL g1 g2 c1 c2 : Nat} {vI vL ls : Value} {LI LL : List Value} {i : Int} {lines : List Int} {o1 o2 : Obj}
    (hb : Below w.heap.size w wr) (hIL : bI < bL) (hLB : bL < B) (hBw : B ≤ w.heap.size) (oI : w.ownsRow B 3 1 vI nI LI) (oL : w.ownsRow B 29 1 vL nL LL) (hne : ∀ k, vI.ownBlock = some k → vL.ownBlock ≠ some k)
    (cI : w1.cell? ⟨bI, 0, none⟩ = some vI) (fI : w1.frozen? ⟨bI, 0, none⟩ = false) (cL : w2.cell? ⟨bL, 0, none⟩ = some vL) (fL : w2.frozen? ⟨bL, 0, none⟩ = false)
    (hg1 : (wr.alloc o1).grownBy w1 vI.ownBlock) (hat1 : vI.ownBlock = some g1 ∨ g1 = wr.heap.size + 1) (ho1 : w1.ownsRow B 3 1 (.slice (some ⟨g1, 0, none⟩) (nI + 1) c1) (nI + 1) (LI ++ [.int .i64 i])) (hlt1 : g1 < w1.heap.size)
    (hg2 : ((w1.setCell ⟨bI, 0, none⟩ (.slice (some ⟨g1, 0, none⟩) (nI + 1) c1)).alloc o2).grownBy w2 vL.ownBlock) (hat2 : vL.ownBlock = some g2 ∨ g2 = w1.heap.size + 1) (ho2 : w2.ownsRow B 29 1 (.slice (some ⟨g2, 0, none⟩) (nL + 1) c2) (nL + 1) (LL ++ [ls])) (hlt2 : g2 < w2.heap.size)
    (hls : wr.ownsRow w.heap.size 3 1 ls lines.length (lines.map (Value.int .i64))) :
    Built w ((w2.setCell ⟨bL, 0, none⟩ (.slice (some ⟨g2, 0, none⟩) (nL + 1) c2)).alloc (.cells #[.int .i64 i] 3)) B bI bL vI vL nI nL LI LL i lines w2.heap.size (.slice (some ⟨g1, 0, none⟩) (nI + 1) c1) (.slice (some ⟨g2, 0, none⟩) (nL + 1) c2) ls := by
  have s0 := hb.size
  have s1 : wr.heap.size + 1 ≤ w1.heap.size := by have := hg1.size; simpa using this
  have s2 : w1.heap.size + 1 ≤ w2.heap.size := by have := hg2.size; simpa [setCell_size] using this
  have lI : ∀ k, vI.ownBlock = some k → B ≤ k ∧ k < w.heap.size := oI.lt
  have lL : ∀ k, vL.ownBlock = some k → B ≤ k ∧ k < w.heap.size := oL.lt
  have e1 : ∀ k, k < wr.heap.size → vI.ownBlock ≠ some k → w1.heap[k]? = wr.heap[k]? := fun k hk hn => by
    rw [hg1.block k (by simp; omega) (fun e => hn e.symm)]; exact Below.heap_alloc _ _ _ hk
  have e3 : ∀ k, k < w1.heap.size → k ≠ bI → vL.ownBlock ≠ some k → w2.heap[k]? = w1.heap[k]? := fun k hk hkI hn => by
    rw [hg2.block k (by simp [setCell_size]; omega) (fun e => hn e.symm), Below.heap_alloc _ _ _ (by rw [setCell_size]; exact hk)]
    exact Below.heap_setCell _ _ _ _ hkI
  have e5 : ∀ k, k < w2.heap.size → k ≠ bL → ((w2.setCell ⟨bL, 0, none⟩ (.slice (some ⟨g2, 0, none⟩) (nL + 1) c2)).alloc (.cells #[.int .i64 i] 3)).heap[k]? = w2.heap[k]? := fun k hk hkL => by
    rw [Below.heap_alloc _ _ _ (by rw [setCell_size]; exact hk)]
    exact Below.heap_setCell _ _ _ _ hkL
  have g1B : B ≤ g1 := by
    rcases hat1 with h | h
    · exact (lI _ h).1
    · omega
  have g2B : B ≤ g2 := by
    rcases hat2 with h | h
    · exact (lL _ h).1
    · omega
  have g1L : vL.ownBlock ≠ some g1 := by
    rcases hat1 with h | h
    · exact hne _ h
    · intro e; have := (lL _ e).2; omega
  have g12 : g1 ≠ g2 := by
    rcases hat2 with h | h
    · intro e; exact g1L (by rw [e]; exact h)
    · omega
  have nbL : ∀ k, k < B → vL.ownBlock ≠ some k := fun k hk e => by have := (lL _ e).1; omega
  have nbI : ∀ k, k < B → vI.ownBlock ≠ some k := fun k hk e => by have := (lI _ e).1; omega
  -- the block of the first log
  have bIeq : ((w2.setCell ⟨bL, 0, none⟩ (.slice (some ⟨g2, 0, none⟩) (nL + 1) c2)).alloc (.cells #[.int .i64 i] 3)).heap[bI]? = (w1.setCell ⟨bI, 0, none⟩ (.slice (some ⟨g1, 0, none⟩) (nI + 1) c1)).heap[bI]? := by
    rw [e5 bI (by omega) (by omega), hg2.block bI (by simp [setCell_size]; omega) (fun e => nbL bI (by omega) e.symm), Below.heap_alloc _ _ _ (by rw [setCell_size]; omega)]
  refine ⟨?_, by omega, ?_, ?_, ?_, ?_, ?_, ?_, ?_, ?_, ?_, ?_, ?_, ?_⟩
  · have h := World.cell?_alloc_new (w2.setCell ⟨bL, 0, none⟩ (.slice (some ⟨g2, 0, none⟩) (nL + 1) c2)) #[.int .i64 i] 3 0
    rw [setCell_size] at h; exact h
  · simp [setCell_size]
  · rw [World.cell?_of_block (w := w1.setCell ⟨bI, 0, none⟩ (.slice (some ⟨g1, 0, none⟩) (nI + 1) c1)) (a := ⟨bI, 0, none⟩) bIeq]
    exact World.cell?_setCell_same _ _ _ (by rw [cI])
  · rw [World.frozen?_of_block (w := w1.setCell ⟨bI, 0, none⟩ (.slice (some ⟨g1, 0, none⟩) (nI + 1) c1)) (a := ⟨bI, 0, none⟩) bIeq, World.frozen?_setCell]; exact fI
  · rw [World.cell?_alloc_lt _ _ _ (by rw [setCell_size]; show bL < _; omega)]
    exact World.cell?_setCell_same _ _ _ (by rw [cL])
  · rw [World.frozen?_of_block (w := w2.setCell ⟨bL, 0, none⟩ (.slice (some ⟨g2, 0, none⟩) (nL + 1) c2)) (a := ⟨bL, 0, none⟩) (Below.heap_alloc _ _ _ (by rw [setCell_size]; show bL < _; omega)), World.frozen?_setCell]; exact fL
  · refine ownsRow_of_block ho1 (fun k hk => ?_)
    obtain rfl : g1 = k := by simpa [Value.ownBlock] using hk
    rw [e5 g1 (by omega) (by omega), e3 g1 hlt1 (by omega) g1L]
  · refine ownsRow_of_block ho2 (fun k hk => ?_)
    obtain rfl : g2 = k := by simpa [Value.ownBlock] using hk
    rw [e5 g2 hlt2 (by omega)]
  · refine ownsRow_of_block hls (fun k hk => ?_)
    obtain ⟨k1, k2⟩ := hls.lt k hk
    rw [e5 k (by omega) (by omega), e3 k (by omega) (by omega) (fun e => by have := (lL _ e).2; omega), e1 k k2 (fun e => by have := (lI _ e).2; omega)]
  · intro k hk
    obtain rfl : g1 = k := by simpa [Value.ownBlock] using hk
    refine ⟨?_, by omega, fun e => g12 (by simpa [Value.ownBlock] using e.symm)⟩
    rcases hat1 with h | h
    · exact Or.inl h
    · exact Or.inr (by omega)
  · intro k hk
    obtain rfl : g2 = k := by simpa [Value.ownBlock] using hk
    refine ⟨?_, by omega⟩
    rcases hat2 with h | h
    · exact Or.inl h
    · exact Or.inr (by omega)
  · intro k hk h1 h2 h3 h4
    rw [e5 k (by omega) h2, e3 k (by omega) h1 h4, e1 k (by omega) h3, hb.block k hk]
  · refine ⟨?_, ?_, ?_, ?_, fun k hk => ?_⟩
    · exact hg2.os.trans (hg1.os.trans hb.os)
    · exact hg2.tape.trans (hg1.tape.trans hb.tape)
    · exact hg2.output.trans (hg1.output.trans hb.output)
    · simp [setCell_size]; omega
    · rw [e5 k (by omega) (by omega), e3 k (by omega) (by omega) (nbL k (by omega)), e1 k (by omega) (nbI k (by omega)), hb.block k (by omega)]

set_option maxHeartbeats 4000000 in
set_option maxRecDepth 100000 in
theorem build_any (i : Int) (a : Option Addr) (cap : Nat) (ts : List TieD) (bI bL B nI nL : Nat) (vI vL : Value) (LI LL : List Value) (w : World)
    (hT : TiesAt w (.slice a ts.length cap) ts) (hn : ts.length ≤ 4096)
    (cI : w.cell? ⟨bI, 0, none⟩ = some vI) (fI : w.frozen? ⟨bI, 0, none⟩ = false) (cL : w.cell? ⟨bL, 0, none⟩ = some vL) (fL : w.frozen? ⟨bL, 0, none⟩ = false)
    (oI : w.ownsRow B 3 1 vI nI LI) (oL : w.ownsRow B 29 1 vL nL LL) (hIL : bI < bL) (hLB : bL < B) (hBw : B ≤ w.heap.size) (hne : ∀ k, vI.ownBlock = some k → vL.ownBlock ≠ some k) (hnI : nI ≤ 4096) (hnL : nL ≤ 4096) :
    Calls Yba.prog 4 #[.int .i64 i, .slice a ts.length cap, .pointer (some ⟨bI, 0, none⟩), .pointer (some ⟨bL, 0, none⟩)] w fun e w' =>
      ∃ pb vI' vL' ls, e = .returned (.pointer (some ⟨pb, 0, none⟩)) ∧ Built w w' B bI bL vI vL nI nL LI LL i (linesL ts) pb vI' vL' ls := by
  obtain ⟨i3, hi, hz0, hz1, hz2⟩ := info_parts info3
  obtain ⟨i29, ki, kz0, kz1, kz2⟩ := info_parts info29
  have HT : Hid (∀ j t, ts[j]? = some t → ∃ g, a = some ⟨g, 0, none⟩ ∧ TieAt w g (j * 7) t) := by
    obtain ⟨a', cap', e, h⟩ := hT
    injection e with e1 e2 e3
    subst e1
    exact h
  clear hT
  have HcI := hid cI
  have HfI := hid fI
  have HcL := hid cL
  have HfL := hid fL
  have HoI := hid oI
  have HoL := hid oL
  have Hne := hid hne
  clear cI fI cL fL oI oL hne
  generalize hN : ts.length = n at *
  have HN := hid hN
  clear hN
  go_enter Yba.func4, Yba.ntmps4
  go_wp2_with (first
    | (at_make; refine wpList_make_own _ rfl _ _ 29 rfl w.heap.size 3 i3 _ 1 Yba.underlying29 hi hz0 hz1 .i64 .i64 _ n rfl rfl rfl (by rw [hz2]; omega) (by unfold maxLen; omega) (Nat.le_refl _) ?_; intro w0 hown0 hg0))
  have hb0 : Below w.heap.size w w0 := (Below.refl _ _).grown hg0 (Nat.le_refl _) (fun j hj => by cases hj)
  clear hg0
  go_loopw [7, 16] (fun vo vi wr => ∃ k : Nat, k ≤ n ∧ vi = .int .i64 k ∧ wr.ownsRow w.heap.size 3 1 vo (linesL (ts.take k)).length ((linesL (ts.take k)).map (Value.int .i64)) ∧ Below w.heap.size w wr) (fun _ vi _ => n - (intOf vi).toNat)
  case atStart => exact ⟨0, Nat.zero_le _, rfl, hown0, hb0⟩
  case round =>
    clear hown0 hb0
    obtain ⟨k, hk, rfl, hown, hb⟩ := hrel
    have hsz := hb.size
    have hle : (linesL (ts.take k)).length ≤ k := by unfold linesL; rw [List.length_map]; exact List.length_take_le _ _
    by_cases hlt : k < n
    · obtain ⟨t, ht⟩ : ∃ t, ts[k]? = some t := ⟨_, List.getElem?_eq_getElem (by have := HN.out; omega)⟩
      obtain ⟨g, rfl, hA0⟩ := HT.out k t ht
      have hgl : g < w.heap.size := World.block_lt_of_cell? w ⟨g, k * 7, none⟩ hA0.c0
      have hA : TieAt wr g (k * 7) t := hA0.kept (hb.block g hgl)
      have HS : Hid (linesL (ts.take (k + 1)) = linesL (ts.take k) ++ [t.L]) := hid (by rw [take_snoc ts k t ht]; simp [linesL])
      obtain ⟨c0, c1, c2, c3, c4, c5, c6⟩ := hA
      clear ht hA0
      generalize linesL (ts.take k) = l at *
      go_wp2_with (first
        | (at_builtin; refine wpList_append_own _ rfl (.tmp 20) (.tmp 23) 29 rfl w.heap.size 3 i3 _ 1 8 Yba.underlying29 hi hz0 hz1 hz2 rfl (by decide) _ _ _ rfl ((hown.alloc _).alloc _) ⟨wr.heap.size + 1, 0, none⟩ 1 1 [.int .i64 t.L] rfl rfl ?c1 ?c2 ?c3 ?c4 ?c5 ?_))
      case c1 =>
        intro j u hj
        match j, hj with
        | 0, hj => simp at hj; subst hj; simp [Addr.add]
      case c2 => intro u hu; simp at hu; subst hu; rfl
      case c3 => unfold maxLen; omega
      case c4 => omega
      case c5 => simp; omega
      intro v' w1 hown1 hg1 _
      have hb1 : Below w.heap.size w w1 := ((hb.alloc hsz _).alloc (by simp; omega) _).grown hg1 (by simp; omega) (fun j hj => (hown.lt j hj).1)
      have HW : Hid (w1.ownsRow w.heap.size 3 1 v' (l ++ [t.L]).length ((l ++ [t.L]).map (Value.int .i64))) := hid (by simpa using hown1)
      clear hown1 hg1 hown
      go_wp2
      go_roundw
      case rel => exact ⟨k + 1, by omega, by go_num, by rw [HS.out]; exact HW.out, hb1⟩
      case measure => simp [intOf]; omega
    · have hkn : k = n := by omega
      subst hkn
      have HW : Hid (wr.ownsRow w.heap.size 3 1 u7 (linesL ts).length ((linesL ts).map (Value.int .i64))) := hid (by rw [show ts.take k = ts from List.take_of_length_le (by have := HN.out; omega)] at hown; exact hown)
      clear hown hle
      have hu7 := owns_form HW.out
      obtain ⟨la, lc, rfl⟩ := hu7
      have c1 : wr.cell? ⟨bI, 0, none⟩ = some vI := (hb.cell (p := ⟨bI, 0, none⟩) (by show bI < _; omega)).trans HcI.out
      have f1 : wr.frozen? ⟨bI, 0, none⟩ = false := (hb.frozen (p := ⟨bI, 0, none⟩) (by show bI < _; omega)).trans HfI.out
      have c2 : wr.cell? ⟨bL, 0, none⟩ = some vL := (hb.cell (p := ⟨bL, 0, none⟩) (by show bL < _; omega)).trans HcL.out
      have f2 : wr.frozen? ⟨bL, 0, none⟩ = false := (hb.frozen (p := ⟨bL, 0, none⟩) (by show bL < _; omega)).trans HfL.out
      have o1 : wr.ownsRow B 3 1 vI nI LI := ownsRow_below HoI.out hb (Nat.le_refl _)
      have o2 : wr.ownsRow B 29 1 vL nL LL := ownsRow_below HoL.out hb (Nat.le_refl _)
      have HO2 := hid o2
      have HC2 := hid c2
      have HF2 := hid f2
      clear o2 c2 f2
      generalize hlines : linesL ts = lines at *
      have Hlines := hid hlines
      clear hlines
      go_wp2_with (first
        | (at_builtin; refine wpList_append_lies _ rfl (.tmp 26) (.tmp 28) 29 rfl B 3 i3 _ 1 8 Yba.underlying29 hi hz0 hz1 hz2 rfl (by decide) _ _ _ rfl (o1.alloc _) ⟨wr.heap.size, 0, none⟩ 1 1 [.int .i64 i] rfl rfl ?c1 ?c2 (by decide) ?c3 ?c4 ?c5 _ rfl ?_))
      case c1 =>
        intro j u hj
        match j, hj with
        | 0, hj => simp at hj; subst hj; simp [Addr.add]
      case c2 => intro u hu; simp at hu; subst hu; rfl
      case c3 => unfold maxLen; omega
      case c4 => omega
      case c5 => simp; omega
      intro g1 cap1 w1 hown1 hg1 hat1 hlt1
      have nI1 : some bI ≠ vI.ownBlock := fun e => by have := (o1.lt bI e.symm).1; omega
      have nL1 : some bL ≠ vI.ownBlock := fun e => by have := (o1.lt bL e.symm).1; omega
      have c3 : w1.cell? ⟨bI, 0, none⟩ = some vI := hg1.cell (by rw [World.cell?_alloc_lt _ _ _ (by show bI < _; omega)]; exact c1) nI1
      have f3 : w1.frozen? ⟨bI, 0, none⟩ = false := by
        rw [World.frozen?_of_block (w := wr) (by rw [hg1.block bI (by simp; omega) nI1]; exact Below.heap_alloc _ _ _ (by omega))]; exact f1
      have c4 : w1.cell? ⟨bL, 0, none⟩ = some vL := hg1.cell (by rw [World.cell?_alloc_lt _ _ _ (by show bL < _; omega)]; exact HC2.out) nL1
      have f4 : w1.frozen? ⟨bL, 0, none⟩ = false := by
        rw [World.frozen?_of_block (w := wr) (by rw [hg1.block bL (by simp; omega) nL1]; exact Below.heap_alloc _ _ _ (by omega))]; exact HF2.out
      have HG1 := hid hg1
      have HA1 := hid hat1
      have HO1 := hid hown1
      have HC1 := hid c1
      have HF1 := hid f1
      have H1 := hid o1
      clear hg1 hat1 hown1 c1 f1 o1
      have hbne : ¬ bL = bI := by omega
      have c5 : ∀ V, (w1.setCell ⟨bI, 0, none⟩ V).cell? ⟨bL, 0, none⟩ = some vL := fun V => by
        rw [World.cell?_of_block (w := w1) (Below.heap_setCell _ _ _ _ (by show bL ≠ bI; omega))]; exact c4
      have o4 : w1.ownsRow B 29 1 vL nL LL := (HO2.out.alloc _).kept HG1.out (by
        cases hv : vL.ownBlock with
        | none => exact Or.inl rfl
        | some k => exact Or.inr (fun e => (Hne.out k e.symm) hv))
      have o5 : ∀ V, (w1.setCell ⟨bI, 0, none⟩ V).ownsRow B 29 1 vL nL LL := fun V => ownsRow_setCell_below o4 (by show bI < B; omega) V
      have hsz1 : wr.heap.size + 1 ≤ w1.heap.size := by have := HG1.out.size; simpa using this
      have HO4 := hid o4
      clear o4
      go_wp2_with (first
        | (at_builtin; refine wpList_append_lies _ rfl (.tmp 30) (.tmp 32) 30 rfl B 29 i29 _ 1 24 Yba.underlying30 ki kz0 kz1 kz2 rfl (by decide) _ _ _ rfl ((o5 _).alloc _) ⟨w1.heap.size, 0, none⟩ 1 1 [.slice la lines.length lc] rfl rfl ?c1 ?c2 (by decide) ?c3 ?c4 ?c5 _ rfl ?_))
      case c1 => exact one_news _ _ _ _ (by rw [setCell_size])
      case c2 => intro u hu; simp at hu; subst hu; rfl
      case c3 => unfold maxLen; omega
      case c4 => omega
      case c5 => simp; omega
      intro g2 cap2 w2 hown2 hg2 hat2 hlt2
      have nL2 : some bL ≠ vL.ownBlock := fun e => by have := (HoL.out.lt bL e.symm).1; omega
      have c6 : w2.cell? ⟨bL, 0, none⟩ = some vL := hg2.cell (by rw [World.cell?_alloc_lt _ _ _ (by rw [setCell_size]; show bL < _; omega)]; exact c5 _) nL2
      have f6 : w2.frozen? ⟨bL, 0, none⟩ = false := by
        rw [World.frozen?_of_block (w := w1) (a := ⟨bL, 0, none⟩) (by rw [hg2.block bL (by simp [setCell_size]; omega) nL2, Below.heap_alloc _ _ _ (by rw [setCell_size]; omega)]; exact Below.heap_setCell _ _ _ _ hbne)]; exact f4
      have HB := hid (built_of hb hIL hLB hBw HoI.out HoL.out Hne.out c3 f3 c6 f6 HG1.out HA1.out HO1.out hlt1 hg2 (by simpa [setCell_size] using hat2) hown2 hlt2 HW.out)
      clear hg2 hown2 hat2 c5 o5 c3 f3 c4 f4
      go_wp2
      go_ret
      rw [Hlines.out]
      exact ⟨_, _, _, _, rfl, HB.out⟩
end Go.Proofs.Ybulkagqa
