import Derived.Test.YbulkagqaW1
import Derived.Test.YbulkagqaW4
import Derived.Test.YbulkagqaW5
import Derived.Deep.RegionHeld3
namespace Go.Proofs.Ybulkagqa
open Go.RowKit
set_option linter.unusedVariables false
set_option linter.unusedSimpArgs false

/-- The pointer to a block's first cell. -/
def ptr : Option Nat → Option Addr
  | none => none
  | some b => some ⟨b, 0, none⟩

/-- The shared record, its first days and what has been built. -/
structure Sh (w : World) (bs gF cF gB cB : Nat) (tv fv : Value) (fs : List Int) (bt : Nat → Option Nat) : Prop where
  s0 : w.cell? ⟨bs, 0, none⟩ = some tv
  s1 : w.cell? ⟨bs, 1, none⟩ = some (.slice (some ⟨gF, 0, none⟩) fs.length cF)
  s2 : w.cell? ⟨bs, 2, none⟩ = some fv
  s3 : w.cell? ⟨bs, 3, none⟩ = some (.slice (some ⟨gB, 0, none⟩) fs.length cB)
  ff : ∀ j, j < fs.length → w.cell? ⟨gF, j, none⟩ = some (.int .i32 (fs.getD j 0))
  bb : ∀ j, j < fs.length → w.cell? ⟨gB, j, none⟩ = some (.pointer (ptr (bt j)))
  bf : ∀ j, j < fs.length → w.frozen? ⟨gB, j, none⟩ = false

set_option maxHeartbeats 2000000 in
theorem on_kept (bs gF cF gB cB : Nat) (tv fv : Value) (fs : List Int) (bt : Nat → Option Nat) (d : Int) (i pb : Nat) (w : World) (hS : Sh w bs gF cF gB cB tv fv fs bt) (hfs : fs.Pairwise (· < ·)) (hlen : fs.length ≤ 9000)
    (hi : fs.countP (· ≤ d) = i + 1) (hb : bt i = some pb) :
    Calls Yba.prog 6 #[.pointer (some ⟨bs, 0, none⟩), .int .i32 d] w fun e w' => e = .returned (.pointer (some ⟨pb, 0, none⟩)) ∧ ∃ q, w' = w.drewN q := by
  have hil : i < fs.length := by have := List.countP_le_length (p := fun x => decide (x ≤ d)) (l := fs); omega
  have hsp := spanOf_any gF 0 cF fs d w (by omega) (fun j hj => by rw [Nat.zero_add]; exact hS.ff j hj) hfs
  rw [hi] at hsp
  rw [show (((i + 1 : Nat) : Int) - 1) = (i : Int) by omega] at hsp
  obtain ⟨s0, s1, s2, s3, ff, bb, bf⟩ := hS
  have hbi := bb i hil
  rw [hb] at hbi
  simp only [ptr] at hbi
  clear ff bb bf hi hb hfs s0 s2
  generalize fs.length = n at *
  go_enter Yba.func6, Yba.ntmps6
  go_wp2_with (go_at_call 9; refine hsp.mono ?_; rintro e w' ⟨rfl, q, rfl⟩)
  go_ret
  exact ⟨rfl, q, rfl⟩
/-- One world but for the count of draws. -/
structure Eqv (w' w : World) : Prop where
  heap : w'.heap = w.heap
  os : w'.os = w.os
  tape : w'.tape = w.tape
  output : w'.output = w.output

theorem Built.low {w w1 w2 : World} {B bI bL nI nL pb : Nat} {vI vL vI' vL' ls : Value} {LI LL : List Value} {i : Int} {lines : List Int} (h : Built w1 w2 B bI bL vI vL nI nL LI LL i lines pb vI' vL' ls)
    (oI : w.ownsRow B 3 1 vI nI LI) (oL : w.ownsRow B 29 1 vL nL LL) {k : Nat} (hk : k < B) (hw : B ≤ w1.heap.size) (h1 : k ≠ bI) (h2 : k ≠ bL) : w2.heap[k]? = w1.heap[k]? :=
  h.frm k (by omega) h1 h2 (fun e => by have := (oI.lt _ e).1; omega) (fun e => by have := (oL.lt _ e).1; omega)

theorem keep_below {w w1 : World} {bs gF i : Nat} {v0 v1 v2 v3 v4 : Value} (hb : Below w.heap.size w w1) (hs : bs < w.heap.size) (hF : gF < w.heap.size)
    (s0 : w.cell? ⟨bs, 0, none⟩ = some v0) (s1 : w.cell? ⟨bs, 1, none⟩ = some v1) (s2 : w.cell? ⟨bs, 2, none⟩ = some v2) (s3 : w.cell? ⟨bs, 3, none⟩ = some v3) (s4 : w.cell? ⟨gF, i, none⟩ = some v4) :
    w1.cell? ⟨bs, 0, none⟩ = some v0 ∧ w1.cell? ⟨bs, 1, none⟩ = some v1 ∧ w1.cell? ⟨bs, 2, none⟩ = some v2 ∧ w1.cell? ⟨bs, 3, none⟩ = some v3 ∧ w1.cell? ⟨gF, i, none⟩ = some v4 :=
  ⟨(hb.cell (p := ⟨bs, 0, none⟩) hs).trans s0, (hb.cell (p := ⟨bs, 1, none⟩) hs).trans s1, (hb.cell (p := ⟨bs, 2, none⟩) hs).trans s2, (hb.cell (p := ⟨bs, 3, none⟩) hs).trans s3, (hb.cell (p := ⟨gF, i, none⟩) hF).trans s4⟩

theorem keep_block {w w1 : World} {bs gF i : Nat} {v0 v1 v2 v3 v4 : Value} (hs : w1.heap[bs]? = w.heap[bs]?) (hF : w1.heap[gF]? = w.heap[gF]?)
    (h : w.cell? ⟨bs, 0, none⟩ = some v0 ∧ w.cell? ⟨bs, 1, none⟩ = some v1 ∧ w.cell? ⟨bs, 2, none⟩ = some v2 ∧ w.cell? ⟨bs, 3, none⟩ = some v3 ∧ w.cell? ⟨gF, i, none⟩ = some v4) :
    w1.cell? ⟨bs, 0, none⟩ = some v0 ∧ w1.cell? ⟨bs, 1, none⟩ = some v1 ∧ w1.cell? ⟨bs, 2, none⟩ = some v2 ∧ w1.cell? ⟨bs, 3, none⟩ = some v3 ∧ w1.cell? ⟨gF, i, none⟩ = some v4 :=
  ⟨(World.cell?_of_block (a := ⟨bs, 0, none⟩) hs).trans h.1, (World.cell?_of_block (a := ⟨bs, 1, none⟩) hs).trans h.2.1, (World.cell?_of_block (a := ⟨bs, 2, none⟩) hs).trans h.2.2.1, (World.cell?_of_block (a := ⟨bs, 3, none⟩) hs).trans h.2.2.2.1, (World.cell?_of_block (a := ⟨gF, i, none⟩) hF).trans h.2.2.2.2⟩

set_option maxHeartbeats 8000000 in
set_option maxRecDepth 100000 in
theorem on_new (bs gF cF gB cB cT : Nat) (aT : Option Addr) (ts : List TieD) (fs : List Int) (bt : Nat → Option Nat) (d f : Int) (i bI bL B nI nL : Nat) (vI vL : Value) (LI LL : List Value) (w : World)
    (hS : Sh w bs gF cF gB cB (.slice aT ts.length cT) (.func (.func 4) #[] #[.pointer (some ⟨bI, 0, none⟩), .pointer (some ⟨bL, 0, none⟩)]) fs bt) (hfs : fs.Pairwise (· < ·)) (hlen : fs.length ≤ 9000)
    (hi : fs.countP (· ≤ d) = i + 1) (hb : bt i = none) (hf : fs.getD i 0 = f) (hT : TiesAt w (.slice aT ts.length cT) ts) (hn : ts.length ≤ 4096)
    (cI : w.cell? ⟨bI, 0, none⟩ = some vI) (fI : w.frozen? ⟨bI, 0, none⟩ = false) (cL : w.cell? ⟨bL, 0, none⟩ = some vL) (fL : w.frozen? ⟨bL, 0, none⟩ = false)
    (oI : w.ownsRow B 3 1 vI nI LI) (oL : w.ownsRow B 29 1 vL nL LL) (hIL : bI < bL) (hLB : bL < B) (hBw : B ≤ w.heap.size) (hne : ∀ k, vI.ownBlock = some k → vL.ownBlock ≠ some k) (hnI : nI ≤ 4096) (hnL : nL ≤ 4096)
    (sB : bs < B) (fB : gF < B) (bB : gB < B) (sI : bs ≠ bI) (sL : bs ≠ bL) (gFI : gF ≠ bI) (gFL : gF ≠ bL) (gBI : gB ≠ bI) (gBL : gB ≠ bL) (gBs : gB ≠ bs) (gBF : gB ≠ gF) :
    Calls Yba.prog 6 #[.pointer (some ⟨bs, 0, none⟩), .int .i32 d] w fun e w' => ∃ pb vI' vL' ls w1 w2, e = .returned (.pointer (some ⟨pb, 0, none⟩)) ∧ Below w.heap.size w w1 ∧
      Built w1 w2 B bI bL vI vL nI nL LI LL i (linesL (onL f ts)) pb vI' vL' ls ∧ Eqv w' (w2.setCell ⟨gB, i, none⟩ (.pointer (some ⟨pb, 0, none⟩))) := by
  have hil : i < fs.length := by have := List.countP_le_length (p := fun x => decide (x ≤ d)) (l := fs); omega
  have hsp := spanOf_any gF 0 cF fs d w (by omega) (fun j hj => by rw [Nat.zero_add]; exact hS.ff j hj) hfs
  rw [hi] at hsp
  rw [show (((i + 1 : Nat) : Int) - 1) = (i : Int) by omega] at hsp
  obtain ⟨s0, s1, s2, s3, ff, bb, bf⟩ := hS
  have hbi := bb i hil
  have hfi := ff i hil
  have hbf := bf i hil
  rw [hb] at hbi
  rw [hf] at hfi
  simp only [ptr] at hbi
  have HT := hid hT
  have HcI := hid cI
  have HfI := hid fI
  have HcL := hid cL
  have HfL := hid fL
  have HoI := hid oI
  have HoL := hid oL
  have Hne := hid hne
  have hsw : bs < w.heap.size := by omega
  have hFw : gF < w.heap.size := by omega
  have hGw : gB < w.heap.size := by omega
  clear ff bb bf hi hb hfs hf hT cI fI cL fL oI oL hne
  generalize fs.length = n at *
  go_enter Yba.func6, Yba.ntmps6
  go_wp2_with (go_at_call 9; refine hsp.mono ?_; rintro e w' ⟨rfl, q, rfl⟩)
  go_region_held3 (fun w' => w'.cell? ⟨bs, 0, none⟩ = some (.slice aT ts.length cT) ∧ w'.cell? ⟨bs, 1, none⟩ = some (.slice (some ⟨gF, 0, none⟩) n cF) ∧ w'.cell? ⟨bs, 2, none⟩ = some (.func (.func 4) #[] #[.pointer (some ⟨bI, 0, none⟩), .pointer (some ⟨bL, 0, none⟩)]) ∧ w'.cell? ⟨bs, 3, none⟩ = some (.slice (some ⟨gB, 0, none⟩) n cB) ∧ w'.cell? ⟨gF, i, none⟩ = some (.int .i32 f))
    (first | exact QR.out _ | exact QP.out | exact QQ.out | go_keep)
    (first
      | (go_at_call 10; refine (tiesOn_any aT cT ts f _ hn (by exact HT.out.kept (fun _ _ => rfl))).mono ?_; rintro e w1 ⟨v1, rfl, hown1, hnn1, hb1⟩; have hB1 : Below w.heap.size w w1 := ⟨hb1.os, hb1.tape, hb1.output, hb1.size, hb1.block⟩; have hform := owns_form hown1; obtain ⟨a1, c1, hv1⟩ := hform; subst hv1; have HT1 := hid (ties_of_owns hown1); have HB1 := hid hB1; have QQ := hid (keep_below hB1 hsw hFw s0 s1 s2 s3 hfi); have hw1 := hB1.size; have HBu := hid (build_any (i : Int) a1 c1 (onL f ts) bI bL B nI nL vI vL LI LL w1 HT1.out (Nat.le_trans (onL_le f ts) hn) ((hB1.cell (p := ⟨bI, 0, none⟩) (by show bI < _; omega)).trans HcI.out) ((hB1.frozen (p := ⟨bI, 0, none⟩) (by show bI < _; omega)).trans HfI.out) ((hB1.cell (p := ⟨bL, 0, none⟩) (by show bL < _; omega)).trans HcL.out) ((hB1.frozen (p := ⟨bL, 0, none⟩) (by show bL < _; omega)).trans HfL.out) (ownsRow_below HoI.out hB1 (Nat.le_refl _)) (ownsRow_below HoL.out hB1 (Nat.le_refl _)) hIL hLB (by omega) Hne.out hnI hnL); have hG1 : w1.cell? ⟨gB, i, none⟩ = some (.pointer none) := (hB1.cell (p := ⟨gB, i, none⟩) hGw).trans hbi; have hF1 : w1.frozen? ⟨gB, i, none⟩ = false := (hB1.frozen (p := ⟨gB, i, none⟩) hGw).trans hbf; clear hb1 hB1 hown1)
      | (go_at_call 4; refine HBu.out.mono ?_; rintro e w2 ⟨pb, vI', vL', ls, rfl, hBu⟩; have QP := hid (keep_block (hBu.low HoI.out HoL.out sB (by omega) sI sL) (hBu.low HoI.out HoL.out fB (by omega) gFI gFL) QQ.out); have QR := hid (fun V => keep_block (w1 := w2.setCell ⟨gB, i, none⟩ V) (Below.heap_setCell _ _ _ _ (Ne.symm gBs)) (Below.heap_setCell _ _ _ _ (Ne.symm gBF)) QP.out); have hG2 : w2.cell? ⟨gB, i, none⟩ = some (.pointer none) := (World.cell?_of_block (a := ⟨gB, i, none⟩) (hBu.low HoI.out HoL.out bB (by omega) gBI gBL)).trans hG1; have hF2 : w2.frozen? ⟨gB, i, none⟩ = false := (World.frozen?_of_block (a := ⟨gB, i, none⟩) (hBu.low HoI.out HoL.out bB (by omega) gBI gBL)).trans hF1; have HBU := hid hBu; clear hBu))
  obtain ⟨r0, r1, r2, r3, r4⟩ := QR.out (.pointer (some ⟨pb, 0, none⟩))
  have r5 : (w2.setCell ⟨gB, i, none⟩ (.pointer (some ⟨pb, 0, none⟩))).cell? ⟨gB, i, none⟩ = some (.pointer (some ⟨pb, 0, none⟩)) := World.cell?_setCell_same _ _ _ hG2
  go_wp2
  go_ret
  exact ⟨pb, vI', vL', ls, w1, w2, rfl, HB1.out, HBU.out, ⟨rfl, rfl, rfl, rfl⟩⟩
end Go.Proofs.Ybulkagqa
