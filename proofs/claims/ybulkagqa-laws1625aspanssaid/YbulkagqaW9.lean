import Derived.Test.YbulkagqaW8
import Derived.LaidEqlPtr
import Derived.Deep.CutRange
import Derived.Deep.Light
import Derived.BigQuiet
import Derived.Deep.QuietTactic
namespace Go.Proofs.Ybulkagqa
open Go.RowKit
set_option linter.unusedVariables false
set_option linter.unusedSimpArgs false

/-- A slice of int32 that came in, as far as it is read. -/
def RowI (w : World) (a : Option Addr) (len : Nat) (zs : List Int) : Prop := ∀ k, k < len → ∃ b o, a = some ⟨b, o, none⟩ ∧ w.cell? ⟨b, o + k, none⟩ = some (.int .i32 (zs.getD k 0))
def In32 (zs : List Int) : Prop := ∀ k, -2147483648 ≤ zs.getD k 0 ∧ zs.getD k 0 ≤ 2147483647

def tieK (z0 z1 : List Int) (k : Nat) : TieD := { subj := ByteArray.empty, rel := ByteArray.empty, obj := ByteArray.empty, F := z0.getD k 0, T := z1.getD k 0, L := k }
def tiesK (z0 z1 : List Int) (n : Nat) : List TieD := (List.range n).map (tieK z0 z1)

theorem tiesK_len (z0 z1 : List Int) (n : Nat) : (tiesK z0 z1 n).length = n := by simp [tiesK]
theorem tiesK_snoc (z0 z1 : List Int) (n : Nat) : tiesK z0 z1 (n + 1) = tiesK z0 z1 n ++ [tieK z0 z1 n] := by simp [tiesK, List.range_succ]
theorem tiesK_range (z0 z1 : List Int) (n : Nat) (h0 : In32 z0) (h1 : In32 z1) : InRange (tiesK z0 z1 n) := by
  intro t ht
  obtain ⟨k, _, rfl⟩ := List.mem_map.1 ht
  exact ⟨(h0 k).1, (h0 k).2, (h1 k).1, (h1 k).2⟩

theorem run_neq_ptr_same {P : Program} {tp te : TypeId} {j : TypeInfo} (w : World) (a : Addr) (hp : P.underlying tp = some (.pointer te)) (hte : P.info? te = some j) :
    (binOp .neq tp (.pointer (some a)) (.pointer (some a))).run P w = .ok (.bool false) w := by
  have h : ∀ d : Nat, (Op.equalIn (d + 1) tp (.pointer (some a)) (.pointer (some a))).run P w = .ok true w := fun d => by
    simp [Op.equalIn, run_underlying hp, sizeOf, typeInfo, hte, run_sameAddr_same]
  simp only [binOp]
  simp [Op.equal, Op.maxDepth, h 9999]

/-- What stands at the last place of an owned row. -/
theorem last_cell {w : World} {B : Nat} {e : TypeId} {v : Value} {L : List Value} {x : Value} (h : w.ownsRow B e 1 v (L.length + 1) (L ++ [x])) : ∃ g cap, v = .slice (some ⟨g, 0, none⟩) (L.length + 1) cap ∧ w.cell? ⟨g, L.length, none⟩ = some x := by
  obtain ⟨g, cap, rfl, _, _⟩ := h.form (by omega)
  refine ⟨g, cap, rfl, ?_⟩
  rw [World.ownsRow.cellAt h L.length (by omega)]
  simp

/-- An owned row of integers, as slices.Equal's contract asks for it. -/
theorem ints_read {w : World} {B : Nat} {e : TypeId} {a : Option Addr} {c : Nat} {xs : List Int} (h : w.ownsRow B e 1 (.slice a xs.length c) xs.length (xs.map (Value.int .i64))) : ∀ j, j < xs.length → ∃ b o, a = some ⟨b, o, none⟩ ∧ w.cell? ⟨b, o + j, none⟩ = some (.int .i64 (xs.getD j 0)) := by
  intro j hj
  obtain ⟨g, cap, e1, _, _⟩ := h.form (by omega)
  injection e1 with e1 _ _
  subst e1
  refine ⟨g, 0, rfl, ?_⟩
  rw [Nat.zero_add, World.ownsRow.cellAt h j (by omega)]
  simp [hj]

theorem linesL_snoc (d : Int) (ts : List TieD) (k : Nat) (t : TieD) (h : ts[k]? = some t) : linesL (onL d (ts.take (k + 1))) = linesL (onL d (ts.take k)) ++ (if inF t.F t.T d then [t.L] else []) := by
  rw [onL_snoc d ts k t h]
  unfold linesL
  rw [List.map_append]
  congr 1
  by_cases e : inF t.F t.T d <;> simp [e]

theorem two_logs (W : World) (v1 v2 : Value) (t1 t2 : TypeId) :
    ((W.alloc (.cells #[v1] t1)).alloc (.cells #[v2] t2)).cell? ⟨W.heap.size, 0, none⟩ = some v1 ∧ ((W.alloc (.cells #[v1] t1)).alloc (.cells #[v2] t2)).frozen? ⟨W.heap.size, 0, none⟩ = false ∧
    ((W.alloc (.cells #[v1] t1)).alloc (.cells #[v2] t2)).cell? ⟨W.heap.size + 1, 0, none⟩ = some v2 ∧ ((W.alloc (.cells #[v1] t1)).alloc (.cells #[v2] t2)).frozen? ⟨W.heap.size + 1, 0, none⟩ = false := by
  refine ⟨by simp, by simp, by simp, by simp⟩

theorem inv_start {wc w3 w4 : World} {bI bs gF cF gB gT cT q : Nat} {ts : List TieD} {fs : List Int} (hSh : Sh w3 bs gF cF gB fs.length (.slice (some ⟨gT, 0, none⟩) ts.length cT) (fnV bI (bI + 1)) fs (fun _ => none))
    (hT : TiesAt w3 (.slice (some ⟨gT, 0, none⟩) ts.length cT) ts) (hb : Below wc.heap.size wc w3)
    (cI : w3.cell? ⟨bI, 0, none⟩ = some (.slice none 0 0)) (fI : w3.frozen? ⟨bI, 0, none⟩ = false) (cL : w3.cell? ⟨bI + 1, 0, none⟩ = some (.slice none 0 0)) (fL : w3.frozen? ⟨bI + 1, 0, none⟩ = false)
    (n1 : wc.heap.size ≤ bI) (n2 : bI + 1 + 1 ≤ bs) (n3 : bs < w3.heap.size) (n4 : bI + 1 + 1 ≤ gF) (n5 : gF < w3.heap.size) (n6 : bI + 1 + 1 ≤ gB) (n7 : gB < w3.heap.size) (n8 : gB ≠ bs) (n9 : gB ≠ gF) (n10 : wc.heap.size ≤ gT) (n11 : gT < bI)
    (hown : w4.ownsRow w3.heap.size 31 1 (.slice (some ⟨w3.heap.size, 0, none⟩) fs.length fs.length) fs.length (List.replicate fs.length (.pointer none))) (hg : (w3.drewN q).grownBy w4 none) :
    Places wc.heap.size bI (bI + 1) bs gF gB w3.heap.size gT w4.heap.size ∧ Inv wc w4 bI (bI + 1) bs gF cF gB w3.heap.size gT cT w4.heap.size ts fs (fun _ => none) (.slice none 0 0) (.slice none 0 0) [] [] := by
  have hs4 : w3.heap.size < w4.heap.size := (hown.lt w3.heap.size rfl).2
  have hblk : ∀ k, k < w3.heap.size → w4.heap[k]? = w3.heap[k]? := fun k hk => hg.block k hk (by simp)
  have hc : ∀ k o, k < w3.heap.size → w4.cell? ⟨k, o, none⟩ = w3.cell? ⟨k, o, none⟩ := fun k o hk => World.cell?_of_block (a := ⟨k, o, none⟩) (hblk k hk)
  have hf : ∀ k o, k < w3.heap.size → w4.frozen? ⟨k, o, none⟩ = w3.frozen? ⟨k, o, none⟩ := fun k o hk => World.frozen?_of_block (a := ⟨k, o, none⟩) (hblk k hk)
  have hsz := hb.size
  refine ⟨⟨by omega, by omega, by omega, by omega, by omega, by omega, by omega, by omega, by refine ⟨?_, ?_, ?_, ?_, ?_, ?_, ?_, ?_, ?_, ?_⟩ <;> omega, by refine ⟨?_, ?_, ?_, ?_⟩ <;> omega, by refine ⟨?_, ?_, ?_⟩ <;> omega, by refine ⟨?_, ?_, ?_, ?_, ?_⟩ <;> omega⟩, ?_⟩
  refine ⟨hSh.of_heap (hblk _ n3) (hblk _ n5) (hblk _ n7), ?_, ?_, ?_, fun j pb _ h => (by cases h), (hc _ _ (by omega)).trans cI, (hf _ _ (by omega)).trans fI, (hc _ _ (by omega)).trans cL, (hf _ _ (by omega)).trans fL, World.ownsRow_nil _ _ _ _, World.ownsRow_nil _ _ _ _, rfl, fun k h => (by cases h), Nat.le_refl _, ?_⟩
  · intro j hj
    rw [World.ownsRow.cellAt hown j (by omega)]
    simp [hj, ptr]
  · intro j hj; exact World.ownsRow.frozenAt hown j
  · exact hT.later hblk
  · refine ⟨?_, ?_, ?_, by omega, fun k hk => ?_⟩
    · exact hg.os.trans hb.os
    · exact hg.tape.trans hb.tape
    · exact hg.output.trans hb.output
    · rw [hblk k (by omega), hb.block k hk]

set_option maxHeartbeats 8000000 in
set_option maxRecDepth 100000 in
theorem law_small (a0 a1 a2 : Option Addr) (len0 len1 len2 cap0 cap1 cap2 : Nat) (z0 z1 z2 : List Int) (w : World) (hl0 : len0 ≤ 1024) (hl1 : len1 ≤ 1024) (hl2 : len2 ≤ 1024)
    (h0 : RowI w a0 len0 z0) (h1 : RowI w a1 len1 z1) (h2 : RowI w a2 len2 z2) (r0 : In32 z0) (r1 : In32 z1) (r2 : In32 z2) :
    Calls Yba.prog 3 #[.slice a0 len0 cap0, .slice a1 len1 cap1, .slice a2 len2 cap2] w fun e w' => e = .returned (.bool true) ∧ Below w.heap.size w w' := by
  obtain ⟨i28, hi28, hz0, hz1, hz2⟩ := info_parts info28
  obtain ⟨i31, hi31, jz0, jz1, jz2⟩ := info_parts info31
  obtain ⟨i3, hi3, lz0, lz1, lz2⟩ := info_parts info3
  have H0 := hid h0
  have H1 := hid h1
  have H2 := hid h2
  have R0 := hid r0
  have R1 := hid r1
  have R2 := hid r2
  clear h0 h1 h2 r0 r1 r2
  go_enter Yba.func3, Yba.ntmps3
  go_upto_if 44 with fail
  go_cut [7] from 26 to 46 (fun s7 wc => ∃ n : Nat, n ≤ len0 ∧ n ≤ len1 ∧ s7 = .int .i64 n ∧ wc = w)
  case first =>
    go_wp2
    · go_meet
      case rel => exact ⟨len1, by omega, by omega, rfl, rfl⟩
    · go_meet
      case rel => exact ⟨len0, by omega, by omega, rfl, rfl⟩
  case rest =>
    obtain ⟨n, hn0, hn1, rfl, rfl⟩ := hcut
    go_wp2_with (first
      | (at_make; refine wpList_make_own _ rfl _ _ 23 rfl wc.heap.size 28 i28 _ 7 Yba.underlying23 hi28 hz0 hz1 .i64 .i64 _ n rfl rfl rfl (by rw [hz2]; omega) (by unfold maxLen; omega) (Nat.le_refl _) ?_; intro w1 hown1 hg1))
    have hb1 : Below wc.heap.size wc w1 := (Below.refl _ _).grown hg1 (Nat.le_refl _) (fun j hj => by cases hj)
    clear hg1
    go_loopw [8, 9] (fun vt vk wr => ∃ k : Nat, k ≤ n ∧ vk = .int .i64 k ∧ wr.ownsRow wc.heap.size 28 7 vt (tiesK z0 z1 k).length ((tiesK z0 z1 k).flatMap TieD.cells) ∧ vt ≠ .slice none 0 0 ∧ Below wc.heap.size wc wr) (fun _ vk _ => n - (intOf vk).toNat)
    case atStart => exact ⟨0, Nat.zero_le _, rfl, hown1, by simp, hb1⟩
    case round =>
      clear hown1 hb1
      obtain ⟨k, hk, rfl, hown, hnn, hb⟩ := hrel
      have hsz := hb.size
      have hlen := tiesK_len z0 z1 k
      by_cases hlt : k < n
      · -- BEGIN P1
        obtain ⟨b0, o0, rfl, hc0⟩ := H0.out k (by omega)
        obtain ⟨b1, o1, rfl, hc1⟩ := H1.out k (by omega)
        have e0 : wr.cell? ⟨b0, o0 + k, none⟩ = some (.int .i32 (z0.getD k 0)) := (hb.cell (p := ⟨b0, o0 + k, none⟩) (World.block_lt_of_cell? wc ⟨b0, o0 + k, none⟩ hc0)).trans hc0
        have e1 : wr.cell? ⟨b1, o1 + k, none⟩ = some (.int .i32 (z1.getD k 0)) := (hb.cell (p := ⟨b1, o1 + k, none⟩) (World.block_lt_of_cell? wc ⟨b1, o1 + k, none⟩ hc1)).trans hc1
        have HS := hid (tiesK_snoc z0 z1 k)
        have hbl0 : b0 < wc.heap.size := World.block_lt_of_cell? wc ⟨b0, o0 + k, none⟩ hc0
        have hbl1 : b1 < wc.heap.size := World.block_lt_of_cell? wc ⟨b1, o1 + k, none⟩ hc1
        have N0 := hid (show some b0 ≠ u8.ownBlock from fun e => by have := (hown.lt b0 e.symm).1; omega)
        have N1 := hid (show some b1 ≠ u8.ownBlock from fun e => by have := (hown.lt b1 e.symm).1; omega)
        clear hc0 hc1
        generalize hl : tiesK z0 z1 k = l at *
        clear hl
        generalize hx0 : z0.getD k 0 = x0 at *
        generalize hx1 : z1.getD k 0 = x1 at *
        have X0 := hid hx0
        have X1 := hid hx1
        clear hx0 hx1
        have i0 : (k : Int) < (len0 : Int) := by omega
        have i1 : (k : Int) < (len1 : Int) := by omega
        go_wp2_with fail
        go_region_held3 (fun w' => w'.cell? ⟨b0, o0 + k, none⟩ = some (.int .i32 x0) ∧ w'.cell? ⟨b1, o1 + k, none⟩ = some (.int .i32 x1)) (first | exact QQ.out | go_keep)
          (first
            | (refine step_append_lies _ rfl (.tmp 54) (.tmp 65) 23 rfl wc.heap.size 28 i28 _ 7 72 Yba.underlying23 hi28 hz0 hz1 hz2 rfl (by decide) _ _ _ rfl (by exact (hown.alloc _)) ⟨wr.heap.size, 0, none⟩ 1 1 (TieD.cells { subj := ByteArray.empty, rel := ByteArray.empty, obj := ByteArray.empty, F := x0, T := x1, L := k }) rfl rfl (by exact tie_news _ _ 28 _ rfl) (tie_oneCell _) (by decide) (by unfold maxLen; omega) (by omega) (by simp; omega) _ rfl ?_; intro g cap w2 hown2 hg2 hat2 hlt2; have QQ := hid (show w2.cell? ⟨b0, o0 + k, none⟩ = some (.int .i32 x0) ∧ w2.cell? ⟨b1, o1 + k, none⟩ = some (.int .i32 x1) from ⟨hg2.cell (by exact (World.cell?_alloc_lt _ _ _ (by show b0 < _; omega)).trans e0) N0.out, hg2.cell (by exact (World.cell?_alloc_lt _ _ _ (by show b1 < _; omega)).trans e1) N1.out⟩)))
        have hb2 : Below wc.heap.size wc w2 := Below.grown (w := (wr.alloc _).drew) ((hb.alloc hsz _).drew) hg2 (by show _ ≤ (wr.alloc _).heap.size; simp; omega) (fun j hj => (hown.lt j hj).1)
        have HW : Hid (w2.ownsRow wc.heap.size 28 7 (.slice (some ⟨g, 0, none⟩) (k + 1) cap) (tiesK z0 z1 (k + 1)).length ((tiesK z0 z1 (k + 1)).flatMap TieD.cells)) := hid (by
          have he : tieK z0 z1 k = { subj := ByteArray.empty, rel := ByteArray.empty, obj := ByteArray.empty, F := x0, T := x1, L := k } := by unfold tieK; rw [X0.out, X1.out]
          rw [HS.out, he, List.length_append, List.flatMap_append]
          simpa [hlen] using hown2)
        clear hown2 hg2 hat2 hown QQ
        go_wp2
        go_roundw
        case rel => exact ⟨k + 1, by omega, by go_num, HW.out, by simp, hb2⟩
        case measure => simp [intOf]; omega
        -- END P1
      · have hkn : k = n := by omega
        subst hkn
        have hex : ∃ gT cT, u8 = .slice (some ⟨gT, 0, none⟩) (tiesK z0 z1 k).length cT ∧ wc.heap.size ≤ gT ∧ gT < wr.heap.size := by
          rcases hown.2 with ⟨e, _⟩ | ⟨g, cap, cur, e, h1, h2, _⟩
          · exact absurd e hnn
          · exact ⟨g, cap, e, h1, (Array.getElem?_eq_some_iff.1 h2).1⟩
        obtain ⟨gT, cT, rfl, hgT0, hgT1⟩ := hex
        have hrange := tiesK_range z0 z1 k R0.out R1.out
        have HT := hid (ties_of_owns hown)
        have hns := fun W h => newShared_any (some ⟨gT, 0, none⟩) cT (tiesK z0 z1 k) (fnV wr.heap.size (wr.heap.size + 1)) #[] #[.pointer (some ⟨wr.heap.size, 0, none⟩), .pointer (some ⟨wr.heap.size + 1, 0, none⟩)] W rfl h (by rw [hlen]; omega) (fun t ht => ⟨(hrange t ht).2.2.1, (hrange t ht).2.2.2⟩)
        have HR := hid hrange
        have HNS := hid hns
        clear hns hrange hown hnn
        generalize hts : tiesK z0 z1 k = ts at *
        have HTS := hid hts
        have HLN := hid hlen
        have hle1 : ts.length ≤ k := by omega
        have hle2 : k ≤ ts.length := by omega
        clear hts hlen
        go_wp2_with fail
        refine (HNS.out _ (by exact HT.out.later (fun q hq => by rw [Below.heap_alloc _ _ _ (by simp; omega), Below.heap_alloc _ _ _ hq]))).mono ?_
        rintro e w3 ⟨bs, gF, cF, gB, rfl, hSh, p1, p2, p3, p4, p5, p6, p7, p8, hb3⟩
        have hfs := ddSort_pairwise (firstsL ts)
        have hhd := spans_head ts HR.out
        have hfl : (spansL ts).length ≤ 9000 := by
          have h1 := ddSort_len (firstsL ts)
          have h2 := turnsAll_len ts
          have h3 : (firstsL ts).length = (turnsAll ts).length + 1 := by simp [firstsL]
          unfold spansL; omega
        have HON := hid (fun d h0 h1 i hi => onL_span ts HR.out d h0 h1 i hi)
        change (spansL ts).Pairwise (· < ·) at hfs
        have hb4 : Below wc.heap.size wc w3 := ((hb.alloc hsz _).alloc (by simp; omega) _).trans (hb3.mono (by simp; omega))
        obtain ⟨lg1, lg2, lg3, lg4⟩ := two_logs wr (.slice none 0 0) (.slice none 0 0) 29 30
        have cI : w3.cell? ⟨wr.heap.size, 0, none⟩ = some (.slice none 0 0) := (hb3.cell (p := ⟨wr.heap.size, 0, none⟩) (by simp only [World.size_alloc]; omega)).trans lg1
        have fI : w3.frozen? ⟨wr.heap.size, 0, none⟩ = false := (hb3.frozen (p := ⟨wr.heap.size, 0, none⟩) (by simp only [World.size_alloc]; omega)).trans lg2
        have cL : w3.cell? ⟨wr.heap.size + 1, 0, none⟩ = some (.slice none 0 0) := (hb3.cell (p := ⟨wr.heap.size + 1, 0, none⟩) (by simp only [World.size_alloc]; omega)).trans lg3
        have fL : w3.frozen? ⟨wr.heap.size + 1, 0, none⟩ = false := (hb3.frozen (p := ⟨wr.heap.size + 1, 0, none⟩) (by simp only [World.size_alloc]; omega)).trans lg4
        clear lg1 lg2 lg3 lg4
        have HT3 := hid (HT.out.later (w' := w3) (fun q hq => by rw [hb3.block q (by simp; omega), Below.heap_alloc _ _ _ (by simp; omega), Below.heap_alloc _ _ _ hq]))
        simp only [World.size_alloc] at p1 p3 p5
        have hk1024 : k ≤ 1024 := by omega
        clear hb3 HNS HT hb hn0 hn1
        generalize wr.heap.size = bI at *
        generalize hF : spansL ts = fs at *
        have HF := hid hF
        clear hF
        have hd0 : w3.cell? ⟨gF, 0, none⟩ = some (.int .i32 (-2147483648)) := by rw [hSh.ff 0 hhd.2, hhd.1]
        have s1 := hSh.s1
        have s3 := hSh.s3
        have HFP := hid hfs
        have hfl0 : 0 < fs.length := hhd.2
        have HHD := hid hhd.1
        have hfl1 : ((fs.length : Int) == 0) = false := by rw [beq_eq_false_iff_ne]; omega
        have HSH := hid hSh
        have HB4 := hid hb4
        have HCI := hid cI
        have HFI := hid fI
        have HCL := hid cL
        have HFL := hid fL
        clear hSh hfs hhd hb4 cI fI cL fL
        go_wp2
        go_loopw [15] (fun s15 wq => ∃ j q : Nat, s15 = .int .i64 j ∧ 1 ≤ j ∧ j ≤ fs.length ∧ wq = w3.drewN q) (fun s15 _ => fs.length - (intOf s15).toNat)
        case atStart => exact ⟨1, 0, rfl, by omega, by omega, rfl⟩
        case round =>
          obtain ⟨j, q, rfl, hj1, hj2, rfl⟩ := hrel
          by_cases hjl : j < fs.length
          · -- BEGIN P2
            have e0 := HSH.out.ff (j - 1) (by omega)
            have e1 := HSH.out.ff j hjl
            have hxy : fs.getD (j - 1) 0 < fs.getD j 0 := by
              have := List.pairwise_iff_getElem.1 HFP.out (j - 1) j (by omega) hjl (by omega)
              rw [getD_elem _ _ (by omega), getD_elem _ _ hjl]; exact this
            generalize fs.getD (j - 1) 0 = x at *
            generalize fs.getD j 0 = y at *
            have i0 : (j : Int) < (fs.length : Int) := by omega
            have i1 : (j : Int) - 1 < (fs.length : Int) := by omega
            have i2 : (0 : Int) ≤ (j : Int) - 1 := by omega
            go_wp2_with fail
            go_quiet (fail)
            go_wp2
            go_roundw
            case rel => exact ⟨j + 1, _, by go_num, by omega, by omega, rfl⟩
            case measure => simp [intOf]; omega
            -- END P2
          · go_wp2_with (first
              | (at_make; refine wpList_make_full _ rfl _ _ 36 rfl w3.heap.size 31 i31 _ 1 Yba.underlying36 hi31 jz0 jz1 .i64 .i64 _ _ fs.length rfl rfl rfl rfl (by rw [jz2]; omega) (by unfold maxLen; omega) (Nat.le_refl _) ?_; intro w4 hown4 hg4))
            have hmade : (madeCells (Value.pointer none).cells (fs.length * 1)).toList = List.replicate fs.length (Value.pointer none) := by
              rw [Nat.mul_one]; exact toList_madeCells_one _ _
            rw [hmade] at hown4
            obtain ⟨hPl, hInv⟩ := inv_start HSH.out HT3.out HB4.out HCI.out HFI.out HCL.out HFL.out hsz p1 p2 p3 p4 p5 p6 p7 p8 hgT0 hgT1 hown4 hg4
            have HPL := hid hPl
            generalize w3.heap.size = gS at *
            generalize hBB : w4.heap.size = BB at *
            clear hBB hmade hown4 hg4 hPl HSH HT3 HB4 HCI HFI HCL HFL p1 p2 p3 p4 p5 p6 p7 p8 hd0 s1 s3
            go_loopw [115] (fun s115 wq => ∃ (k2 : Nat) (bt : Nat → Option Nat) (vI vL : Value) (LI LL : List Value), s115 = .int .i64 k2 ∧ k2 ≤ len2 ∧ LI.length ≤ k2 ∧ Inv wc wq bI (bI + 1) bs gF cF gB gS gT cT BB ts fs bt vI vL LI LL) (fun s115 _ => len2 - (intOf s115).toNat)
            case atStart => exact ⟨0, _, _, _, _, _, rfl, Nat.zero_le _, Nat.le_refl _, hInv⟩
            case round =>
              clear hInv
              obtain ⟨k2, bt, vI, vL, LI, LL, rfl, hk2, hLI, hInv⟩ := hrel
              have HINV := hid hInv
              by_cases hlt2 : k2 < len2
              · obtain ⟨b2, o2, rfl, hc2⟩ := H2.out k2 hlt2
                have e2 : wr.cell? ⟨b2, o2 + k2, none⟩ = some (.int .i32 (z2.getD k2 0)) := (hInv.bel.cell (p := ⟨b2, o2 + k2, none⟩) (World.block_lt_of_cell? wc ⟨b2, o2 + k2, none⟩ hc2)).trans hc2
                obtain ⟨hdr0, hdr1⟩ := R2.out k2
                have ff := hInv.sh.ff
                clear hc2 hInv
                generalize z2.getD k2 0 = d at *
                have hcount := List.countP_le_length (p := fun x => decide (x ≤ d)) (l := fs)
                have HSPL := hid (count_split d fs HFP.out)
                have hc1 : 1 ≤ fs.countP (· ≤ d) := by
                  have := (HSPL.out 0 hfl0).1 (by rw [HHD.out]; omega)
                  omega
                generalize hC : fs.countP (· ≤ d) = c at *
                have HC := hid hC
                clear hC
                go_wp2
                go_loopw [20, 21] (fun s20 s21 wq => ∃ j : Nat, j ≤ fs.length ∧ s21 = .int .i64 j ∧ s20 = .int .i64 ((min j c : Nat) - 1 : Int) ∧ wq = wr) (fun _ s21 _ => fs.length - (intOf s21).toNat)
                case atStart => exact ⟨0, Nat.zero_le _, rfl, by simp, rfl⟩
                case round =>
                  obtain ⟨j, hj, rfl, rfl, rfl⟩ := hrel
                  by_cases hjl : j < fs.length
                  · -- BEGIN P4
                    have e3 := ff j hjl
                    have hsp := HSPL.out j hjl
                    clear ff
                    generalize fs.getD j 0 = x at *
                    by_cases hx : x ≤ d
                    · have hjc : j < c := hsp.1 hx
                      have hmin : ((min (j + 1) c : Nat) : Int) - 1 = (j : Int) := by omega
                      have HMIN := hid hmin
                      clear hmin hsp
                      go_wp2
                      go_roundw
                      case rel => exact ⟨j + 1, by omega, by go_num, by rw [HMIN.out], trivial⟩
                      case measure => simp [intOf]; omega
                    · have hjc : ¬ j < c := fun h => hx (hsp.2 h)
                      have hmin : min (j + 1) c = min j c := by omega
                      have HMIN := hid hmin
                      clear hmin hsp
                      go_wp2
                      go_roundw
                      case rel => exact ⟨j + 1, by omega, by go_num, by rw [HMIN.out], trivial⟩
                      case measure => simp [intOf]; omega
                    -- END P4
                  · have hmin : ((min j c : Nat) : Int) - 1 = ((c - 1 : Nat) : Int) := by omega
                    rw [hmin]
                    clear hmin
                    obtain ⟨i, rfl⟩ : ∃ i, c = i + 1 := ⟨c - 1, by omega⟩
                    rw [show i + 1 - 1 = i by omega]
                    have hil : i < fs.length := by omega
                    have hInv := HINV.out
                    have cI := hInv.cI
                    have hvI := owns_form hInv.oI
                    obtain ⟨aI, capI, rfl⟩ := hvI
                    clear ff hInv hc1
                    go_wp2_with fail
                    cases hbt : bt i with
                    | some pb =>
                      -- BEGIN P5
                      have hsn := HINV.out.sn i hil
                      have hpp := (HINV.out.pp i pb hil hbt).1
                      rw [hbt] at hsn
                      simp only [ptr] at hsn
                      refine (on_kept bs gF cF gB fs.length _ _ fs bt d i pb wr HINV.out.sh HFP.out hfl HC.out hbt).mono ?_
                      rintro e w' ⟨rfl, q, rfl⟩
                      have hneq : Sem.run Yba.prog (binOp .neq 31 (.pointer (some ⟨pb, 0, none⟩)) (.pointer (some ⟨pb, 0, none⟩))) (wr.drewN q) = .ok (.bool false) (wr.drewN q) := run_neq_ptr_same _ _ Yba.underlying31 hi3
                      clear hbt
                      go_wp2
                      go_roundw
                      case rel => exact ⟨k2 + 1, bt, _, vL, LI, LL, by go_num, by omega, by omega, HINV.out.eqv (Eqv.drewN _ q)⟩
                      case measure => simp [intOf]; omega
                      -- END P5
                    | none =>
                      have hInv := HINV.out
                      have hPl := HPL.out
                      have hsn := hInv.sn i hil
                      rw [hbt] at hsn
                      simp only [ptr] at hsn
                      have hone : linesL (onL (fs.getD i 0) ts) = linesL (onL d ts) := by
                        rw [HON.out d hdr0 hdr1 i HC.out]
                      refine (on_new bs gF cF gB fs.length cT (some ⟨gT, 0, none⟩) ts fs bt d _ i bI (bI + 1) BB LI.length LL.length _ vL LI LL wr hInv.sh HFP.out hfl HC.out hbt rfl hInv.tt (by omega) hInv.cI hInv.fI hInv.cL hInv.fL hInv.oI hInv.oL hPl.iL hPl.lB hInv.hBw hInv.hne (by omega) (by rw [← hInv.nn]; omega) hPl.sB hPl.fB hPl.bB hPl.s_ne.1 hPl.s_ne.2.1 hPl.s_ne.2.2.1 hPl.s_ne.2.2.2.1 hPl.s_ne.2.2.2.2.1 hPl.s_ne.2.2.2.2.2.1 hPl.b_ne.1 hPl.b_ne.2.1).mono ?_
                      rintro e w5 ⟨pb, vI', vL', ls, w1', w2', rfl, hB1, hBu, hEq⟩
                      rw [hone] at hBu
                      have hMid := mid_of hPl hInv hil hB1 hBu hEq
                      have HM := hid hMid
                      have hpp := (hMid.pp i pb hil (by unfold setPb; rw [if_pos rfl])).1
                      have hsn5 := hMid.sn i hil
                      rw [hbt] at hsn5
                      simp only [ptr] at hsn5
                      have hcI5 := hMid.cI
                      obtain ⟨gI, capI', rfl, hlast⟩ := last_cell hMid.oI
                      clear hsn hone hInv hPl cI hB1 hBu hEq hMid HINV
                      have hlI : (LI.length : Int) < ((LI.length + 1 : Nat) : Int) := by omega
                      go_wp2_with (first
                        | (at_make; refine wpList_make_own _ rfl _ _ 29 rfl w5.heap.size 3 i3 _ 1 Yba.underlying29 hi3 lz0 lz1 .i64 .i64 _ k rfl rfl rfl (by rw [lz2]; omega) (by unfold maxLen; omega) (Nat.le_refl _) ?_; intro w6 hown6 hg6))
                      have hb6 : Below w5.heap.size w5 w6 := (Below.refl _ _).grown hg6 (Nat.le_refl _) (fun j hj => by cases hj)
                      clear hg6
                      go_loopw [24, 25] (fun s24 s25 wq => ∃ k3 : Nat, k3 ≤ k ∧ s25 = .int .i64 k3 ∧ wq.ownsRow w5.heap.size 3 1 s24 (linesL (onL d (ts.take k3))).length ((linesL (onL d (ts.take k3))).map (Value.int .i64)) ∧ Below w5.heap.size w5 wq) (fun _ s25 _ => k - (intOf s25).toNat)
                      case atStart => exact ⟨0, Nat.zero_le _, rfl, hown6, hb6⟩
                      case round =>
                        clear hown6 hb6
                        obtain ⟨k3, hk3, rfl, hown7, hb7⟩ := hrel
                        have hsz7 := hb7.size
                        by_cases hlt3 : k3 < k
                        · -- BEGIN P6
                          obtain ⟨t, ht⟩ : ∃ t, ts[k3]? = some t := ⟨_, List.getElem?_eq_getElem (by omega)⟩
                          have hL : t.L = (k3 : Int) := by
                            rw [← HTS.out] at ht
                            unfold tiesK at ht
                            rw [List.getElem?_map, List.getElem?_range (by omega)] at ht
                            simp at ht; subst ht; rfl
                          have hTA : ∃ g, some (⟨gT, 0, none⟩ : Addr) = some ⟨g, 0, none⟩ ∧ TieAt w5 g (k3 * 7) t := by
                            obtain ⟨a', cap', e, h⟩ := HM.out.tt
                            injection e with e1 e2 e3
                            subst e1
                            exact h k3 t ht
                          obtain ⟨g, hg, hTA⟩ := hTA
                          injection hg with hg
                          injection hg with hg _ _
                          subst hg
                          have hgl : gT < w5.heap.size := World.block_lt_of_cell? w5 ⟨gT, k3 * 7, none⟩ hTA.c0
                          have hTA' := hTA.kept (hb7.block gT hgl)
                          have c4 := hTA'.c4
                          have c5 := hTA'.c5
                          have HS := hid (linesL_snoc d ts k3 t ht)
                          have hlen3 : (linesL (onL d (ts.take k3))).length ≤ k3 := by
                            unfold linesL; rw [List.length_map]
                            exact Nat.le_trans (onL_le _ _) (List.length_take_le _ _)
                          rw [hL] at HS
                          clear ht hTA hTA' hL
                          have i7 : (k3 : Int) < (ts.length : Int) := by omega
                          generalize linesL (onL d (ts.take k3)) = l at *
                          generalize t.F = F at *
                          generalize t.T = T at *
                          by_cases hF1 : F ≤ d
                          · by_cases hT1 : d ≤ T
                            · have hin : inF F T d = true := by simp [inF, hF1, hT1]
                              rw [hin] at HS
                              simp only [if_true] at HS
                              go_wp2_with (first
                                | (at_builtin; refine wpList_append_own _ rfl (.tmp 190) (.tmp 192) 29 rfl w5.heap.size 3 i3 _ 1 8 Yba.underlying29 hi3 lz0 lz1 lz2 rfl (by decide) _ _ _ rfl (hown7.alloc _) ⟨wr.heap.size, 0, none⟩ 1 1 [.int .i64 k3] rfl rfl (one_news _ _ _ _ rfl) (by intro u hu; simp at hu; subst hu; rfl) (by unfold maxLen; omega) (by omega) (by simp; omega) ?_; intro v8 w8 hown8 hg8 hnil8; have hb8 : Below w5.heap.size w5 w8 := (hb7.alloc hsz7 _).grown hg8 (by simp; omega) (fun j hj => (hown7.lt j hj).1); clear hg8 hnil8))
                              have HW : Hid (w8.ownsRow w5.heap.size 3 1 v8 (l ++ [(k3 : Int)]).length ((l ++ [(k3 : Int)]).map (Value.int .i64))) := hid (by simpa using hown8)
                              clear hown8 hown7
                              go_roundw
                              case rel => exact ⟨k3 + 1, by omega, by go_num, by rw [HS.out]; exact HW.out, hb8⟩
                              case measure => simp [intOf]; omega
                            · have hT2 : decide (d ≤ T) = false := by simpa using hT1
                              have hin : inF F T d = false := by simp [inF, hT1]
                              rw [hin] at HS
                              simp only [Bool.false_eq_true, if_false, List.append_nil] at HS
                              go_wp2
                              go_roundw
                              case rel => exact ⟨k3 + 1, by omega, by go_num, by rw [HS.out]; exact hown7, hb7⟩
                              case measure => simp [intOf]; omega
                          · have hF2 : decide (F ≤ d) = false := by simpa using hF1
                            have hin : inF F T d = false := by simp [inF, hF1]
                            rw [hin] at HS
                            simp only [Bool.false_eq_true, if_false, List.append_nil] at HS
                            go_wp2
                            go_roundw
                            case rel => exact ⟨k3 + 1, by omega, by go_num, by rw [HS.out]; exact hown7, hb7⟩
                            case measure => simp [intOf]; omega
                          -- END P6
                        · have hk3k : k3 = k := by omega
                          subst hk3k
                          rw [show ts.take k3 = ts from List.take_of_length_le (by omega)] at hown7
                          have hMid := HM.out
                          have hPl := HPL.out
                          have hu24 := owns_form hown7
                          obtain ⟨ea, ec, rfl⟩ := hu24
                          have hlsf := owns_form hMid.ols
                          obtain ⟨la, lc, rfl⟩ := hlsf
                          obtain ⟨gL, capL, rfl, hlastL⟩ := last_cell hMid.oL
                          have hbw := hMid.hBw
                          have hcL7 : wr.cell? ⟨bI + 1, 0, none⟩ = some (.slice (some ⟨gL, 0, none⟩) (LL.length + 1) capL) := (hb7.cell (p := ⟨bI + 1, 0, none⟩) (by show bI + 1 < _; have := hPl.lB; omega)).trans hMid.cL
                          have hlast7 : wr.cell? ⟨gL, LI.length, none⟩ = some (.slice la (linesL (onL d ts)).length lc) := by
                            rw [hMid.nn]
                            exact (hb7.cell (p := ⟨gL, LL.length, none⟩) (hMid.oL.lt gL rfl).2).trans hlastL
                          have hls7 := ownsRow_below hMid.ols hb7 (Nat.le_refl _)
                          have hlen7 : (linesL (onL d ts)).length ≤ 1024 := by
                            unfold linesL; rw [List.length_map]
                            have := onL_le d ts
                            omega
                          have heq := equal_same la ea lc ec (linesL (onL d ts)) wr (by omega) (ints_read hls7) (ints_read hown7)
                          have hgS7 : wr.cell? ⟨gS, i, none⟩ = some (.pointer none) := (hb7.cell (p := ⟨gS, i, none⟩) (by show gS < _; have := hPl.seB; omega)).trans hsn5
                          have hfS7 : wr.frozen? ⟨gS, i, none⟩ = false := (hb7.frozen (p := ⟨gS, i, none⟩) (by show gS < _; have := hPl.seB; omega)).trans (hMid.sf i hil)
                          have hnn8 : (LI.length : Int) < ((LL.length + 1 : Nat) : Int) := by have := hMid.nn; omega
                          have HEQ := hid heq
                          have HB7 := hid hb7
                          clear heq hb7 hown7 hls7 hMid hPl hlastL hlast hcI5 hpp hsn5
                          generalize linesL (onL d ts) = lines at *
                          go_wp2_with (go_at_call 7; refine HEQ.out.mono ?_; rintro e w' ⟨rfl, q, rfl⟩)
                          go_roundw
                          case rel => exact ⟨k2 + 1, setPb bt i pb, _, _, LI ++ [.int .i64 i], LL ++ [.slice la lines.length lc], by go_num, by omega, by rw [List.length_append, List.length_singleton]; omega, by refine inv_of_mid HPL.out HM.out hil HB7.out ?_; exact ⟨rfl, rfl, rfl, rfl⟩⟩
                          case measure => simp [intOf]; omega
              · clear hInv
                go_wp2
                go_ret
                exact ⟨rfl, HINV.out.bel⟩
end Go.Proofs.Ybulkagqa
