import Derived.Test.YbulkagqaDoorF5
import Derived.Deep.RegionLaw
import Derived.Deep.DeepCutAuto
namespace Go.Proofs.YbulkagqaDoor
open Go.RowKit Go.Lib
set_option linter.unusedVariables false
set_option linter.unusedSimpArgs false

set_option maxHeartbeats 8000000 in
set_option maxRecDepth 100000 in
theorem newBreaks_any (bc : Nat) (ins : List InD) (w : World) (hn : ins.length ≤ 256) (hok : ∀ x ∈ ins, x.ok) (hC : CalAt w bc ins) (hR : RulesAt w) :
    Calls Ybad.prog 7 #[.pointer (some ⟨bc, 0, none⟩)] w fun e w' => ∃ bm v0 v5, e = .returned (.agg #[v0, .map (some bm), v5]) ∧ Out w' bm v0 v5 ((dsL ins).map (fun d => (ixN (fsL ins) d : Int))) (atL (fsL ins) (evs (selX 1 ins))) (votL (fsL ins) (vtL (selX 2 ins)) (evs (selX 1 ins))) ∧ Below w.heap.size w w' := by
  have HN := hid hn
  have HOK := hid hok
  have HC := hid hC
  have HR := hid hR
  clear hn hok hC hR
  have hmm := @run_makeMap Ybad.prog
  go_enter Ybad.func7, Ybad.ntmps7
  go_wp2_with fail
  generalize hw1 : ((((w.alloc (Obj.cells #[Value.pointer (some { block := bc, off := 0 })] 23)).alloc
              (Obj.cells #[Value.slice none 0 0, Value.map none, Value.slice none 0 0] 33)).alloc
          (Obj.map #[] 0)).alloc
      (Obj.cells #[Value.slice none 0 0, Value.map (some (w.heap.size + 1 + 1)), Value.slice none 0 0] 33)) = w1
  clear hmm
  generalize hbk : w.heap.size + 1 + 1 + 1 = bk
  generalize hbm : w.heap.size + 1 + 1 = bm
  generalize hbr : w.heap.size + 1 = br
  generalize hbb : w.heap.size = bb
  have HST := hid (nb_start w w1 bc bb br bm bk hbk hbm hbr hbb hw1)
  have HBN := hid (show bb < br ∧ br < bm ∧ bm < bk ∧ w.heap.size = bb by omega)
  clear hw1 hbk hbm hbr hbb
  have HC1 := hid (HC.out.later (fun k hk => HST.out.2.2.2.1.block k hk) HST.out.2.2.2.1.size)
  have HSP := hid (show ∀ wr, Below bm w1 wr → ∀ d, -2147483648 ≤ d → Calls Ybad.prog 15 #[.int .i32 d, .pointer (some ⟨bb, 0, none⟩)] wr fun e w' => e = .returned (.int .i64 (ixN (fsL ins) d : Nat)) ∧ ∃ q, w' = wr.drewN q from by
    intro wr hlow d hd
    obtain ⟨g, c, h6, hda, hlg⟩ := HC.out.firsts
    have hx := HBN.out
    have hlo : ∀ k, k < w.heap.size → wr.heap[k]? = w.heap[k]? := fun k hk => (hlow.block k (by omega)).trans (HST.out.2.2.2.1.block k hk)
    have hcb : bc < w.heap.size := World.block_lt_of_cell? w ⟨bc, 6, none⟩ h6
    refine spanC_any bb bc g c (fsL ins) d wr ((hlow.cell (p := ⟨bb, 0, none⟩) (by simp; omega)).trans HST.out.2.1) ((World.cell?_of_block (a := ⟨bc, 6, none⟩) (hlo bc hcb)).trans h6) (fun j hj => (World.cell?_of_block (a := ⟨g, j, none⟩) (hlo g hlg)).trans (hda j hj)) (spansL_pw _) (spansL_open _) hd ?_
    have := (lens HN.out).1
    omega)
  obtain ⟨bo, g1, c1, q2, q4, d1, z1, l1⟩ := HC1.out.owns
  obtain ⟨bf, g2, c2, q3, q5, d2, z2, l2⟩ := HC1.out.fams
  have q1 := HST.out.2.1
  have HD1 := hid d1
  have HD2 := hid d2
  have HP1 := hid (spansL_pos (rowL 0 ins))
  have HP2 := hid (spansL_pos (rowL 3 ins))
  have k1 : (1 : Int) ≤ ((spansL (rowL 0 ins)).length : Int) := by have := HP1.out; omega
  have k2 : (1 : Int) ≤ ((spansL (rowL 3 ins)).length : Int) := by have := HP2.out; omega
  have k3 : ((spansL (rowL 0 ins)).length : Int) ≤ (c1 : Int) := by omega
  have k4 : ((spansL (rowL 3 ins)).length : Int) ≤ (c2 : Int) := by omega
  have HZ1 := hid z1
  have HZ2 := hid z2
  clear d1 d2 z1 z2 l1 l2
  generalize hn1 : (spansL (rowL 0 ins)).length = n1 at q4 k1 k3
  generalize hn2 : (spansL (rowL 3 ins)).length = n2 at q5 k2 k4
  have HN1 := hid hn1
  have HN2 := hid hn2
  clear hn1 hn2
  obtain ⟨A1, hA1⟩ : ∃ A1, (if c1 = 1 then some (⟨g1, 0, none⟩ : Addr) else some ⟨g1, 1, none⟩) = A1 := ⟨_, rfl⟩
  obtain ⟨A2, hA2⟩ : ∃ A2, (if c2 = 1 then some (⟨g2, 0, none⟩ : Addr) else some ⟨g2, 1, none⟩) = A2 := ⟨_, rfl⟩
  have HA1 := hid hA1
  have HA2 := hid hA2
  go_region_held3 (fun w' => w'.cell? ⟨bb, 0, none⟩ = some (.pointer (some ⟨bc, 0, none⟩)) ∧ w'.cell? ⟨bc, 9, none⟩ = some (.pointer (some ⟨bo, 0, none⟩)) ∧ w'.cell? ⟨bc, 10, none⟩ = some (.pointer (some ⟨bf, 0, none⟩)) ∧ w'.cell? ⟨bo, 1, none⟩ = some (.slice (some ⟨g1, 0, none⟩) n1 c1) ∧ w'.cell? ⟨bf, 1, none⟩ = some (.slice (some ⟨g2, 0, none⟩) n2 c2)) (go_keep)
    (first
      | (go_at_call 17; refine (concat2 w1 _ g1 c1 g2 c2 A1 A2 HA1.out HA2.out (f1L ins) (f2L ins) n1 n2 HN1.out.symm HN2.out.symm HZ1.out HZ2.out (by have h := lens HN.out; omega) HD1.out HD2.out HP1.out HP2.out (dsL ins) rfl rfl).mono ?_; rintro e w2 ⟨a, cap, rfl, hri, hb2⟩
         have r1 := (hb2.cell (p := ⟨bb, 0, none⟩) (World.block_lt_of_cell? w1 _ q1)).trans q1
         have r2 := (hb2.cell (p := ⟨bc, 9, none⟩) (World.block_lt_of_cell? w1 _ q2)).trans q2
         have r3 := (hb2.cell (p := ⟨bc, 10, none⟩) (World.block_lt_of_cell? w1 _ q3)).trans q3
         have r4 := (hb2.cell (p := ⟨bo, 1, none⟩) (World.block_lt_of_cell? w1 _ q4)).trans q4
         have r5 := (hb2.cell (p := ⟨bf, 1, none⟩) (World.block_lt_of_cell? w1 _ q5)).trans q5
         have HRI := hid hri
         have HB2 := hid hb2
         clear hri hb2))
  clear q1 q2 q3 q4 q5 r1 r2 r3 r4 r5 hA1 hA2 k1 k2 k3 k4
  have HNB0 := hid (HST.out.1.later HB2.out)
  have HR2 := hid (HRI.out.mono (show bk + 1 ≤ w1.heap.size + 1 by have := HST.out.2.2.2.2; omega))
  have HNN := hid (show (dsL ins).length ≤ 1024 from (lens HN.out).2.2.2)
  generalize hN : (dsL ins).length = N at *
  have HNE := hid hN
  clear hN
  go_wp2_with fail
  go_loopw [38] (fun s38 wr => Rel1 w1 wr bk bm N a ins s38) (fun s38 _ => N - (RowKit.intOf s38).toNat)
  case atStart => exact ⟨0, fun _ => nilRow, Nat.zero_le _, rfl, HNB0.out, by simpa using NL.start, HR2.out⟩
  case round =>
    obtain ⟨k, R, hk, rfl, hNB, hNL, hRI⟩ := hrel
    have HNB := hid hNB
    have HNL := hid hNL
    have HRK := hid hRI
    clear hNB hNL hRI
    by_cases hkn : k < N
    · have hkl : k < (dsL ins).length := by rw [HNE.out]; exact hkn
      obtain ⟨g, cur, rfl, hgl, hgb, hgc⟩ := HRK.out k hkl
      obtain ⟨d, hd⟩ : ∃ d, (dsL ins)[k]? = some d := ⟨_, List.getElem?_eq_getElem hkl⟩
      have hdd : (dsL ins).getD k 0 = d := by rw [List.getD_eq_getElem?_getD, hd]; rfl
      rw [hdd] at hgc
      have HD := hid hd
      have HGE := hid (dsL_ge HOK.out d (List.mem_of_getElem? hd))
      clear hkl hgl hgb hd hdd
      have hki : (k : Int) < (N : Int) := by omega
      have hNb : N ≤ 1024 := HNN.out
      have p0 := HNB.out.c0
      have hlk := HNB.out.ltk
      have HLN := hid (show (R 0).n ≤ 2000 from by
        have h1 := HNL.out.r0.1
        have h2 := HNN.out
        simp at h1
        omega)
      go_wp2_with fail
      go_region_law (first
        | (refine step_row (by rfl) (.tmp 43) (.tmp 47) 0 (by decide) 29 rfl (by rfl) w1 wr bk bm R _ _ _ HNB.out (by rfl) (by rfl) [.int .i64 (ixN (fsL ins) d : Nat)] rfl (by simp [Value.oneCell']) HLN.out _ 3 (by rfl) rfl rfl rfl ?_; intro g3 c3 w3 hNB3 hBs; have HNB3 := hid (hNB3.set0 (.slice (some ⟨g3, 0, none⟩) ((R 0).n + 1) c3)); have HBS := hid (hBs.trans (Beside.setCell w3 bk bm 0 (.slice (some ⟨g3, 0, none⟩) ((R 0).n + 1) c3))); have p1 := hNB3.c0; have p2 := hNB3.fz 0; clear hNB3 hBs)
        | (go_simp; go_at_call 15; refine (HSP.out _ HNB.out.low.drew d HGE.out).mono ?_; rintro e w3 ⟨rfl, q, rfl⟩; have p0b : ((wr.drewN (1 + q)).alloc (.cells #[.int .i64 (ixN (fsL ins) d : Nat)] 3)).cell? ⟨bk, 0, none⟩ = some (R 0).v := (World.cell?_alloc_past _ _ _ hlk).trans p0)
        | fail)
      all_goals
        go_wp2_with fail
        go_roundw
        case rel => exact loop1_step HNB3.out HNL.out HRK.out HBS.out HD.out hkn (by go_num)
        case measure => simp [RowKit.intOf]; omega
    · have hkn2 : k = N := by omega
      subst hkn2
      clear hkn hk
      rw [List.take_of_length_le (by rw [HNE.out]; exact Nat.le_refl _)] at HNL
      clear HRK HRI HR2 HB2 HNB0
      have HBV := hid (show bk < wr.heap.size from HNB.out.ltk)
      have HLW := hid (show ∀ k, k < w1.heap.size → True from fun _ _ => trivial)
      obtain ⟨vs, x5, hTS⟩ := HC.out.seats
      obtain ⟨sa, cs, rfl, hts⟩ := hTS
      have HTS := hid hts
      have hcb : bc < w.heap.size := World.block_lt_of_cell? w ⟨bc, 5, none⟩ x5
      have HLO := hid (show ∀ W, Below bm w1 W → ∀ k, k < w.heap.size → W.heap[k]? = w.heap[k]? from fun W hW k hk => (hW.block k (by have := HBN.out; omega)).trans (HST.out.2.2.2.1.block k hk))
      have t1 : wr.cell? ⟨bb, 0, none⟩ = some (.pointer (some ⟨bc, 0, none⟩)) := (HNB.out.low.cell (p := ⟨bb, 0, none⟩) (by have := HBN.out; simp; omega)).trans HST.out.2.1
      have t5 : wr.cell? ⟨bc, 5, none⟩ = some (.slice sa (rowL 2 ins).length cs) := (World.cell?_of_block (a := ⟨bc, 5, none⟩) (HLO.out _ HNB.out.low bc hcb)).trans x5
      have hlb : bb < wr.heap.size := World.block_lt_of_cell? wr _ t1
      have hlc : bc < wr.heap.size := World.block_lt_of_cell? wr _ t5
      clear hts x5 hcb HLW
      have hmm := @run_makeMap Ybad.prog
      go_wp2_with fail
      clear hmm
      obtain ⟨bv, hbv⟩ : ∃ bv, wr.heap.size = bv := ⟨_, rfl⟩
      have HNBv := hid (HNB.out.later ((Below.refl _ _).alloc (Nat.le_refl _) (.map #[] 0)))
      have HMV := hid (MapIs.made wr)
      rw [hbv] at HMV HBV
      generalize hN2 : (rowL 2 ins).length = n2s at *
      have HN2S := hid hN2
      clear hN2
      have HS2 := hid (show n2s ≤ 256 from by have h1 := rowL_len 2 ins; have h2 := HN.out; have h3 := HN2S.out; omega)
      rw [hbv]
      clear hbv t1 t5 hlb hlc
      go_loopw [57] (fun s57 wv => Rel2 w1 wv bk bm bv n2s R (selX 2 ins) s57) (fun s57 _ => n2s - (RowKit.intOf s57).toNat)
      case atStart => exact ⟨0, Nat.zero_le _, rfl, HNBv.out, HMV.out⟩
      case round =>
        clear HMV HNBv HNB
        obtain ⟨k, hk, rfl, hNB, hMV⟩ := hrel
        have HNB := hid hNB
        have HMV := hid hMV
        clear hNB hMV
        by_cases hkn : k < n2s
        · obtain ⟨x, hx⟩ : ∃ x, (selX 2 ins)[k]? = some x := ⟨_, List.getElem?_eq_getElem (by rw [selX_len, HN2S.out]; exact hkn)⟩
          have hxr : (rowL 2 ins)[k]? = some (tieOf x) := by rw [rowL_eq, List.getElem?_map, hx]; rfl
          obtain ⟨g, rfl, hTA⟩ := HTS.out k _ hxr
          have hgl : g < w.heap.size := World.block_lt_of_cell? w ⟨g, k * 7, none⟩ hTA.c0
          obtain ⟨y0, y1, y2, y3, y4, y5, y6⟩ := hTA.kept (HLO.out wr HNB.out.low g hgl)
          have HX := hid hx
          clear hx hxr hTA hgl
          obtain ⟨i, hi4, hxi⟩ : ∃ i, i < 4 ∧ x.s % 4 = i := ⟨x.s % 4, by omega, rfl⟩
          have HXI := hid hxi
          generalize hT : tieOf x = T at *
          have hTs : T.subj = nm i := by rw [← hT, ← hxi]; rfl
          rw [hTs] at y0
          clear hT hTs hxi
          have hki : (k : Int) < (n2s : Int) := by omega
          have hNb : n2s ≤ 256 := HS2.out
          have hbl := HMV.out.lt
          go_wp2_with (first
            | (at_mapUpdate; refine wpList_mapPut _ rfl _ _ _ 77 rfl 4 Ybad.underlying77 bv _ (HMV.out.kept (Below.heap_alloc _ _ _ hbl)) i hi4 (.bool true) rfl rfl rfl ?_; intro w4 hM4 hg4; have HM4 := hid hM4; have HG4 := hid hg4; clear hM4 hg4))
          go_roundw
          case rel => exact loop2_step HNB.out HMV.out HX.out HBV.out (by rw [HXI.out]; exact HM4.out) HG4.out hkn (by go_num)
          case measure => simp [RowKit.intOf]; omega
        · have hkn2 : k = n2s := by omega
          subst hkn2
          clear hkn hk
          have htk : (selX 2 ins).take k = selX 2 ins := List.take_of_length_le (by rw [selX_len, HN2S.out]; exact Nat.le_refl _)
          rw [htk] at HMV
          clear htk HTS
          obtain ⟨vo, x2, hTO⟩ := HC.out.other
          obtain ⟨oa, co, rfl, hto⟩ := hTO
          have HTO := hid hto
          have hcb : bc < w.heap.size := World.block_lt_of_cell? w ⟨bc, 2, none⟩ x2
          have t1 : wr.cell? ⟨bb, 0, none⟩ = some (.pointer (some ⟨bc, 0, none⟩)) := (HNB.out.low.cell (p := ⟨bb, 0, none⟩) (by have := HBN.out; simp; omega)).trans HST.out.2.1
          have t2 : wr.cell? ⟨bc, 2, none⟩ = some (.slice oa (rowL 1 ins).length co) := (World.cell?_of_block (a := ⟨bc, 2, none⟩) (HLO.out _ HNB.out.low bc hcb)).trans x2
          clear hto x2 hcb
          generalize hN1o : (rowL 1 ins).length = n1o at *
          have HN1O := hid hN1o
          have HO1 := hid (show n1o ≤ 256 from by have h1 := rowL_len 1 ins; have h2 := HN.out; omega)
          clear hN1o
          go_wp2_with fail
          clear t1 t2
          go_loopw [70] (fun s70 wv => Rel3 w1 wv bk bm bv n1o ins ((dsL ins).map (fun d => (ixN (fsL ins) d : Int))) s70) (fun s70 _ => n1o - (RowKit.intOf s70).toNat)
          case atStart => exact ⟨0, R, _, Nat.zero_le _, rfl, HNB.out, by rw [List.take_zero]; exact HNL.out, HMV.out⟩
          case round =>
            clear HMV HNB HNL
            obtain ⟨k, R, f, hk, rfl, hNB, hNL, hMV⟩ := hrel
            have HNB := hid hNB
            have HNL := hid hNL
            have HMV := hid hMV
            clear hNB hNL hMV
            by_cases hkn : k < n1o
            · obtain ⟨x, hx⟩ : ∃ x, (selX 1 ins)[k]? = some x := ⟨_, List.getElem?_eq_getElem (by rw [selX_len, HN1O.out]; exact hkn)⟩
              have hxr : (rowL 1 ins)[k]? = some (tieOf x) := by rw [rowL_eq, List.getElem?_map, hx]; rfl
              obtain ⟨g, rfl, hTA⟩ := HTO.out k _ hxr
              have hgl : g < w.heap.size := World.block_lt_of_cell? w ⟨g, k * 7, none⟩ hTA.c0
              obtain ⟨y0, y1, y2, y3, y4, y5, y6⟩ := hTA.kept (HLO.out wr HNB.out.low g hgl)
              have HX := hid hx
              have HXO := hid (selX_ok HOK.out x (List.mem_of_getElem? hx))
              clear hx hxr hTA hgl
              obtain ⟨i, hi4, hxi⟩ : ∃ i, i < 4 ∧ x.s % 4 = i := ⟨x.s % 4, by omega, rfl⟩
              obtain ⟨o, ho4, hxo⟩ : ∃ o, o < 4 ∧ x.o % 4 = o := ⟨x.o % 4, by omega, rfl⟩
              obtain ⟨r, hr11, hxr⟩ : ∃ r, r < 11 ∧ x.r % 11 = r := ⟨x.r % 11, by omega, rfl⟩
              have HXI := hid hxi
              have HXB := hid hxo
              have HXR := hid hxr
              simp only [tieOf] at y0 y1 y2 y3 y4 y5 y6
              rw [hxi] at y0
              rw [hxr] at y1
              rw [hxo] at y2
              clear hxi hxo hxr
              obtain ⟨xF, hxF⟩ : ∃ xF, x.F = xF := ⟨_, rfl⟩
              obtain ⟨xT, hxT⟩ : ∃ xT, x.T = xT := ⟨_, rfl⟩
              rw [hxF] at y4
              rw [hxT] at y5
              have HXF := hid hxF
              have HXT := hid hxT
              clear hxF hxT
              have hki : (k : Int) < (n1o : Int) := by omega
              have hNb : n1o ≤ 256 := HO1.out
              have HRU := hid (show ∀ o, RulesAt (wr.alloc o) from fun o => HR.out.later (fun k hk => (Below.heap_alloc _ _ _ (by have h1 := HNB.out.low.size; have h2 := HST.out.2.2.2.1.size; omega)).trans (HLO.out wr HNB.out.low k hk)) (by have h1 := HNB.out.low.size; have h2 := HST.out.2.2.2.1.size; simp; omega))
              by_cases hp : 2 ≤ r ∧ r ≤ 6
              · have hpt : decide (2 ≤ r ∧ r ≤ 6) = true := by simp [hp]
                have HP := hid hp
                clear hp
                go_wp2_with (first
                  | (go_at_call 18; refine (isPost_any r _ hr11 (HRU.out _)).mono ?_; rintro e w3 ⟨rfl, rfl⟩)
                  | (go_at_call 19; refine (turnsC _ _ _ _ xF xT _ _ (by rw [← HXT.out]; exact HXO.out.T0) (by rw [← HXT.out]; exact HXO.out.T1) (turnsL xF xT) rfl).mono ?_; rintro e w4 ⟨ta, tcap, rfl, hri, hb4⟩; have HRI := hid hri; have HB4 := hid hb4; clear hri hb4))
                clear y0 y1 y2 y3 y4 y5 y6
                generalize hbt : wr.heap.size = bt
                have HL4 := hid (loop4_start (x := x) (N := (turnsL xF xT).length) HNB.out HNL.out HMV.out HRI.out HB4.out)
                have HBT := hid (show bk < wr.heap.size from HNB.out.ltk)
                rw [hbt] at HL4 HBT
                have HNT := hid (turnsL_len xF xT)
                clear HRI HB4 HNB HNL HMV hbt HRU
                generalize hNT : (turnsL xF xT).length = nt at *
                have HNTE := hid hNT
                clear hNT
                go_loopw [81] (fun s81 wv => Rel4 w1 wv bk bm bv bt nt ins ((dsL ins).map (fun d => (ixN (fsL ins) d : Int))) (evs ((selX 1 ins).take k)) x (turnsL xF xT) ta #[.string (nm i), .string (rl r), .string (nm o), .pointer none, .int .i32 xF, .int .i32 xT, .int .i64 0] s81) (fun s81 _ => nt - (RowKit.intOf s81).toNat)
                case atStart => exact HL4.out
                case round =>
                  clear HL4
                  obtain ⟨j, R, f, hj, rfl, hNB, hNL, hMV, hRI, hTB⟩ := hrel
                  have HNB := hid hNB
                  have HNL := hid hNL
                  have HMV := hid hMV
                  have HRI := hid hRI
                  have HTB := hid hTB
                  clear hNB hNL hMV hRI
                  by_cases hjn : j < nt
                  · have hjl : j < (turnsL xF xT).length := by rw [HNTE.out]; exact hjn
                    obtain ⟨g, cur, rfl, hgl, hgb, hgc⟩ := HRI.out j hjl
                    obtain ⟨d, hd⟩ : ∃ d, (turnsL xF xT)[j]? = some d := ⟨_, List.getElem?_eq_getElem hjl⟩
                    have hdd : (turnsL xF xT).getD j 0 = d := by rw [List.getD_eq_getElem?_getD, hd]; rfl
                    rw [hdd] at hgc
                    have HD := hid hd
                    have HGE := hid (turnsL_ge (by rw [← HXF.out]; exact HXO.out.F0) (by rw [← HXT.out]; exact HXO.out.T0) d (List.mem_of_getElem? hd))
                    clear hjl hgl hgb hd hdd
                    have hji : (j : Int) < (nt : Int) := by omega
                    have hnt2 : nt ≤ 2 := HNT.out
                    have c1 := HNB.out.c1
                    have hlk := HNB.out.ltk
                    have t2 : wr.cell? ⟨bt, 2, none⟩ = some (.string (nm o)) := by simp [World.cell?, hTB]
                    have hlt : bt < wr.heap.size := World.block_lt_of_cell? wr _ t2
                    have l1 : (Instr.lookup 30 (.map (some bm)) (.string (nm o)) false).run Ybad.prog wr.drew = .ok (R (o + 1)).v wr.drew := by
                      have h := (HNB.out.mp.kept (w' := wr.drew) rfl).look o ho4 30 29 Ybad.underlying30 (.slice none 0 0) (zero29 _)
                      rw [HNL.out.get o ho4] at h
                      exact h
                    have HLL := hid (fun W (hW : W.heap[bm]? = wr.heap[bm]?) => show (Instr.lookup 30 (.map (some bm)) (.string (nm o)) false).run Ybad.prog W = .ok (R (o + 1)).v W from by
                      have h := (HNB.out.mp.kept (w' := W) hW).look o ho4 30 29 Ybad.underlying30 (.slice none 0 0) (zero29 _)
                      rw [HNL.out.get o ho4] at h
                      exact h)
                    have HLEN := hid (HNL.out.lens (ev_len HN.out k x _ (by rw [HNTE.out]; exact HNT.out) j))
                    clear hTB
                    go_wp2_with fail
                    go_cut [98] (fun s98 wc => ∃ R f, Mid4 w1 wc bk bm bv bt ins ((dsL ins).map (fun d => (ixN (fsL ins) d : Int))) (evs ((selX 1 ins).take k) ++ ((turnsL xF xT).take j).map fun d => (x, d)) x d (turnsL xF xT) (some ⟨g, 0, none⟩) #[.string (nm i), .string (rl r), .string (nm o), .pointer none, .int .i32 xF, .int .i32 xT, .int .i64 0] R f)
                    case first =>
                      go_region_held3 (fun w' => w'.cell? ⟨bk, 1, none⟩ = some (.map (some bm)) ∧ w'.cell? ⟨bt, 2, none⟩ = some (.string (nm o))) (go_keep)
                        (first
                          | (refine step_row (by rfl) (.tmp 93) (.tmp 97) (o + 1) (by omega) 29 (ts_at o ho4) (by rfl) w1 wr bk bm R _ _ _ HNB.out (by rfl) (by rfl) [.int .i64 (ixN (fsL ins) d : Nat)] (sz_at o ho4 _) (by simp [Value.oneCell']) (HLEN.out.1 o ho4) _ 3 (by rfl) rfl rfl rfl ?_; intro g3 c3 w3 hNB3 hBs; obtain ⟨w4, hrun4, hM4, hg4⟩ := hNB3.mp.put o ho4 (.slice (some ⟨g3, 0, none⟩) ((R (o + 1)).n + 1) c3) 30 29 Ybad.underlying30; have HMID := hid (at_step HXB.out ho4 HNL.out HMV.out HRI.out HTB.out HBV.out HBT.out hNB3 hBs hM4 hg4); have s1 := hNB3.c1; have s2 : w3.cell? ⟨bt, 2, none⟩ = some (.string (nm o)) := (by have h := hBs.keep bt _ HTB.out ⟨by decide, by decide⟩ (by have := HBT.out; omega) (by have h1 := HBT.out; have h2 := HBN.out; omega); simp [World.cell?, h]); have s3 := HMID.out.1.c1; have s4 : w4.cell? ⟨bt, 2, none⟩ = some (.string (nm o)) := (by have h := HMID.out.2.2.2.2; simp [World.cell?, h]); clear hNB3 hBs hM4 hg4)
                          | (go_at_call 15; refine (HSP.out _ HNB.out.low.drew d HGE.out).mono ?_; rintro e w3 ⟨rfl, q, rfl⟩; have l2 := HLL.out (wr.drewN (1 + q)) rfl; have l3 := HLL.out ((wr.drewN (1 + q)).alloc (.cells #[.int .i64 (ixN (fsL ins) d : Nat)] 3)) (Below.heap_alloc _ _ _ (by have := HNB.out.lt; simp; omega)))
                          | fail)
                      all_goals (go_wp2_with fail; go_meet; exact ⟨_, _, HMID.out⟩)
                    case rest =>
                      obtain ⟨R2, f2, hM⟩ := hcut
                      have HM := hid hM
                      clear hM c1 t2 hlk hlt l1
                      have c2b := HM.out.1.c2
                      have hlk := HM.out.1.ltk
                      have hTB := HM.out.2.2.2.2
                      have t0 : wc.cell? ⟨bt, 0, none⟩ = some (.string (nm i)) := by simp [World.cell?, hTB]
                      have t2 : wc.cell? ⟨bt, 2, none⟩ = some (.string (nm o)) := by simp [World.cell?, hTB]
                      have hlt : bt < wc.heap.size := World.block_lt_of_cell? wc _ t2
                      clear hTB
                      by_cases hv : vtL (selX 2 ins) i = true
                      · have HVV := hid (show (vtF (selX 2 ins) i).getD (.bool false) = .bool true from by simp [vtF, hv])
                        have HV := hid hv
                        have HL5 := hid (HM.out.2.1.lens' (ev_len HN.out k x _ (by rw [HNTE.out]; exact HNT.out) j))
                        clear hv
                        go_wp2_with (first
                          | (at_lookup; refine wpList_mapLook _ rfl _ _ 77 rfl 4 Ybad.underlying77 (.bool false) (zero4 _) bv _ HM.out.2.2.1 i hi4 rfl rfl (.bool true) HVV.out ?_))
                        go_region_law (first
                          | (refine step_row (by rfl) (.tmp 104) (.tmp 111) 5 (by decide) 31 rfl (by rfl) w1 wc bk bm R2 _ _ _ HM.out.1 (by rfl) (by rfl) [.int .i64 (ixN (fsL ins) d : Nat), .string (nm o)] rfl (by simp [Value.oneCell']) HL5.out _ 61 (by rfl) rfl rfl rfl ?_; intro g3 c3 w3 hNB3 hBs; have HNB3 := hid (hNB3.set2 (.slice (some ⟨g3, 0, none⟩) ((R2 5).n + 1) c3)); have HBS := hid (hBs.trans (Beside.setCell w3 bk bm 2 (.slice (some ⟨g3, 0, none⟩) ((R2 5).n + 1) c3))); have p1 := hNB3.c2; have p2 := hNB3.fz 2; clear hNB3 hBs)
                          | (go_simp; go_at_call 15; refine (HSP.out _ HM.out.1.low.drew d HGE.out).mono ?_; rintro e w3 ⟨rfl, q, rfl⟩; have p0b : ((wc.drewN (1 + q)).alloc (.cells #[.int .i64 (ixN (fsL ins) d : Nat), .string (nm o)] 61)).cell? ⟨bk, 2, none⟩ = some (R2 5).v := (World.cell?_alloc_past _ _ _ hlk).trans c2b)
                          | fail)
                        all_goals
                          go_wp2_with fail
                          go_roundw
                          case rel => exact loop4_yes HXB.out (lens HN.out).1 HM.out (by rw [HXI.out]; exact HV.out) HD.out hjn (by go_num) HBV.out HBT.out HNB3.out HBS.out
                          case measure => simp [RowKit.intOf]; omega
                      · have HVV := hid (show (vtF (selX 2 ins) i).getD (.bool false) = .bool false from by simp [vtF, hv])
                        have HV := hid hv
                        clear hv
                        go_wp2_with (first
                          | (at_lookup; refine wpList_mapLook _ rfl _ _ 77 rfl 4 Ybad.underlying77 (.bool false) (zero4 _) bv _ HM.out.2.2.1 i hi4 rfl rfl (.bool false) HVV.out ?_))
                        go_roundw
                        case rel => exact loop4_no HM.out (by rw [HXI.out]; simpa using HV.out) HD.out hjn (by go_num)
                        case measure => simp [RowKit.intOf]; omega
                  · have hjn2 : j = nt := by omega
                    subst hjn2
                    clear hjn hj
                    have htk : (turnsL xF xT).take j = turnsL xF xT := List.take_of_length_le (by rw [HNTE.out]; exact Nat.le_refl _)
                    rw [htk] at HNL
                    clear htk
                    clear hTB
                    go_wp2_with fail
                    go_roundw
                    case rel => exact loop3_yes (bt := bt) HNB.out HNL.out HMV.out HX.out (by rw [isP, HXR.out]; simpa using HP.out) (by rw [HXF.out, HXT.out]) hkn (by go_num)
                    case measure => simp [RowKit.intOf]; omega
              · have hpt : decide (2 ≤ r ∧ r ≤ 6) = false := by simp; omega
                have HP := hid hp
                clear hp
                go_wp2_with (first
                  | (go_at_call 18; refine (isPost_any r _ hr11 (HRU.out _)).mono ?_; rintro e w3 ⟨rfl, rfl⟩))
                go_roundw
                case rel => exact loop3_no HNB.out HNL.out HMV.out HX.out (by rw [isP, HXR.out]; simp; have := HP.out; omega) hkn (by go_num)
                case measure => simp [RowKit.intOf]; omega
            · have hkn2 : k = n1o := by omega
              subst hkn2
              clear hkn hk
              have htk : (selX 1 ins).take k = selX 1 ins := List.take_of_length_le (by rw [selX_len, HN1O.out]; exact Nat.le_refl _)
              rw [htk] at HNL
              clear htk HTO HMV
              have HLL0 := hid (show ((dsL ins).map (fun d => (ixN (fsL ins) d : Int))).length ≤ 9000 from by have h := lens HN.out; simp; omega)
              have HEL := hid (show (evs (selX 1 ins)).length ≤ 1000 from by
                have h1 := evs_len (selX 1 ins)
                have h2 := selX_len 1 ins
                have h3 := rowL_len 1 ins
                have h4 := HN.out
                omega)
              have HAL := hid (show ∀ j, (atL (fsL ins) (evs (selX 1 ins)) j).length ≤ 9000 from fun j => by have h1 := atL_len (fsL ins) (evs (selX 1 ins)) j; have h2 := HEL.out; omega)
              have HVL := hid (show (votL (fsL ins) (vtL (selX 2 ins)) (evs (selX 1 ins))).length ≤ 9000 from by have h1 := votL_len (fsL ins) (vtL (selX 2 ins)) (evs (selX 1 ins)); have h2 := HEL.out; omega)
              generalize hq1 : (dsL ins).map (fun d => (ixN (fsL ins) d : Int)) = L0 at *
              generalize hq2 : votL (fsL ins) (vtL (selX 2 ins)) (evs (selX 1 ins)) = V at *
              generalize hq3 : atL (fsL ins) (evs (selX 1 ins)) = A at *
              have HQ1 := hid hq1
              have HQ2 := hid hq2
              have HQ3 := hid hq3
              clear hq1 hq2 hq3
              obtain ⟨a0, z0, e0⟩ := slice_of_owns (HNB.out.ints 0 (by decide) _ HNL.out.r0.1 HNL.out.r0.2)
              have HE0 := hid e0
              have c0 := HNB.out.c0
              rw [e0] at c0
              clear e0
              go_wp2_with (first
                | (go_at_call 20; refine (sortC HNB.out 0 (by decide) L0 HNL.out.r0.1 HNL.out.r0.2 HLL0.out _ HE0.out).mono ?_; rintro e w3 ⟨rfl, hNB3, hB3, hm3⟩; have c3 := hNB3.c0; rw [HE0.out] at c3; have HNB3 := hid hNB3; clear hNB3 hB3 hm3)
                | (go_at_call 21; refine (compC HNB3.out 0 (by decide) (L0.mergeSort leI) (by rw [upd_same]) (by rw [upd_same]) (by rw [List.length_mergeSort]; exact HLL0.out) a0 L0.length z0 (by rw [upd_same])).mono ?_; rintro e w4 ⟨rfl, hNB4, hB4, hm4⟩; have c4 := hNB4.c0; have f4 := hNB4.fz 0; have HNB4 := hid (hNB4.set0 (.slice a0 (dd (L0.mergeSort leI)).length z0)); have c5 := HNB4.out.c1; have c6 := hNB4.c1; clear hNB4 hB4 hm4)
                | (at_range; refine wpList_mapRange _ rfl _ 30 rfl 29 Ybad.underlying30 bm f HNB4.out.mp rfl ?_; intro w5 hR5 hg5 hs5; have HR5 := hid hR5; have HG5 := hid hg5; clear hR5 hg5 hs5))
              go_frame
              have HNL4 := hid ((HNL.out.set0 (L1 := L0.mergeSort leI) (.slice a0 L0.length z0)).set0 (L1 := ddSort L0) (.slice a0 (dd (L0.mergeSort leI)).length z0))
              have HREL := hid (rel5_start HNB4.out HNL4.out HR5.out HG5.out)
              have HRB := hid (show bk < (w4.setCell ⟨bk, 0, none⟩ (.slice a0 (dd (L0.mergeSort leI)).length z0)).heap.size from HNB4.out.ltk)
              generalize (w4.setCell ⟨bk, 0, none⟩ (.slice a0 (dd (L0.mergeSort leI)).length z0)).heap.size = r at *
              clear HNB3 HNB4 HNB HNL HNL4 HR5 HG5 c0 c3 c4 c5 c6 f4
              go_loopw [126] (fun _ wv => Rel5 w1 wv bk bm r (ddSort L0) A V) (fun _ wv => wv.rangeLeft bm r)
              case atStart => exact HREL.out
              case round =>
                clear HREL
                obtain ⟨left, cnt, R, f, hNB, hNL, hRg⟩ := hrel
                have HNB := hid hNB
                have HNL := hid hNL
                have HRG := hid hRg
                clear hNB hNL hRg
                go_wp2_with (first
                  | (at_next; refine wpList_mapNext _ rfl _ rfl bm r f left cnt rfl HRG.out ?_ ?_))
                · intro hl0
                  have HL0 := hid hl0
                  clear hl0
                  obtain ⟨a0', z0', e0⟩ := slice_of_owns (HNB.out.ints 0 (by decide) _ HNL.out.r0.1 HNL.out.r0.2)
                  have HOV := hid (HNB.out.votes V HNL.out.r5.1 HNL.out.r5.2)
                  obtain ⟨a5, z5, e5⟩ := slice_of_owns HOV.out
                  have c2 := HNB.out.c2
                  rw [e5] at c2 HOV
                  have HE0' := hid e0
                  have HE5 := hid e5
                  clear e0 e5
                  go_wp2_with fail
                  refine (sortf_row wr (bk + 1) _ V HOV.out HVL.out).mono ?_
                  rintro e w6 ⟨rfl, ps, hps, hsort, hown6, hg6⟩
                  rw [← HE5.out] at hown6 hg6
                  have HNB6 := hid (HNB.out.row 5 (by decide) ⟨(R 5).v, V.length, ps.flatMap encT⟩ hown6 hg6 (fun g hgv => .inl hgv))
                  have HPS := hid hps
                  have HSO := hid hsort
                  have HOW6 := hid hown6
                  have HG6 := hid hg6
                  clear hps hsort hown6 hg6 c2
                  have c0 := HNB6.out.c0
                  have c1' := HNB6.out.c1
                  have c2 := HNB6.out.c2
                  rw [HE0'.out] at c0
                  rw [HE5.out] at c2
                  have hrb : w6.heap[br]? = some (.cells #[.slice none 0 0, .map none, .slice none 0 0] 33) := (HNB6.out.low.block br (by have := HBN.out; omega)).trans HST.out.2.2.1
                  have r0 : w6.cell? ⟨br, 0, none⟩ = some (.slice none 0 0) := by simp [World.cell?, hrb]
                  have r1 : w6.cell? ⟨br, 1, none⟩ = some (.map none) := by simp [World.cell?, hrb]
                  have r2 : w6.cell? ⟨br, 2, none⟩ = some (.slice none 0 0) := by simp [World.cell?, hrb]
                  have rf0 : w6.frozen? ⟨br, 0, none⟩ = false := by simp [World.frozen?, hrb]
                  have rf1 : w6.frozen? ⟨br, 1, none⟩ = false := by simp [World.frozen?, hrb]
                  have rf2 : w6.frozen? ⟨br, 2, none⟩ = false := by simp [World.frozen?, hrb]
                  clear hrb
                  have nb1 : bk ≠ br := by have := HBN.out; omega
                  have nb2 : br ≠ bk := by have := HBN.out; omega
                  go_wp2_with fail
                  refine bodyPost_ret (v := .agg #[.slice a0' (ddSort L0).length z0', .map (some bm), .slice a5 V.length z5]) (by simp [results, Ybad.results7, go_sem, r0, r1, r2, nb1, nb2]) rfl ?_
                  have hout := out_of (W := ((w6.setCell ⟨br, 0, none⟩ (.slice a0' (ddSort L0).length z0')).setCell ⟨br, 1, none⟩ (.map (some bm))).setCell ⟨br, 2, none⟩ (.slice a5 V.length z5)) (br := br) HNB.out HNL.out HL0.out HPS.out HSO.out HOW6.out HG6.out (fun k hk => by
                    have h1 : k ≠ br := by omega
                    rw [Below.heap_setCell _ _ _ k h1, Below.heap_setCell _ _ _ k h1, Below.heap_setCell _ _ _ k h1]) (by have := HBN.out; omega)
                  rw [HE0'.out, HE5.out] at hout
                  have hlow : Below w.heap.size w w6 := HST.out.2.2.2.1.trans (HNB6.out.low.mono (by have := HBN.out; omega))
                  have hbr : w.heap.size ≤ br := by have := HBN.out; omega
                  refine ⟨bm, _, _, rfl, ?_, ((hlow.setCell (p := ⟨br, 0, none⟩) hbr _).setCell (p := ⟨br, 1, none⟩) hbr _).setCell (p := ⟨br, 2, none⟩) hbr _⟩
                  rw [HQ1.out, HQ2.out, HQ3.out]
                  exact hout
                · intro i v w2 cnt2 hi4 hli hfi hR2 hlt hg2 hs2 hen
                  have HIN := hid (rel5_in HNB.out HNL.out HRG.out HRB.out hi4 hli hfi hg2)
                  have HR2 := hid hR2
                  have HLT := hid hlt
                  have HFS := hid (show (f i).isSome = true from by rw [hfi]; rfl)
                  obtain ⟨ai, zi, ei⟩ := slice_of_owns (HIN.out.1.ints (i + 1) (by omega) _ HIN.out.2.2.1 HIN.out.2.2.2.1)
                  have hvi : v = .slice ai (A i).length zi := by rw [← HIN.out.2.1]; exact ei
                  subst hvi
                  clear hli hfi hR2 hlt hg2 hs2 ei
                  have HW := hid (HIN.out.1.c1)
                  go_wp2_with (first
                    | (go_at_call 20; refine (sortC HIN.out.1 (i + 1) (by omega) (A i) HIN.out.2.2.1 HIN.out.2.2.2.1 (HAL.out i) _ HIN.out.2.1).mono ?_; rintro e w3 ⟨rfl, hNB3, hB3, hm3⟩; have c3 := hNB3.c1; have HNB3 := hid hNB3; have HR3 := hid (HR2.out.beside hm3 hB3 HRB.out); clear hNB3 hB3 hm3))
                  go_region_held3 (fun w' => w'.cell? ⟨bk, 1, none⟩ = some (.map (some bm))) (go_keep)
                    (first
                      | (go_at_call 21; refine (compC (HNB3.out.of_heap (W := w3.drew) rfl rfl rfl rfl) (i + 1) (by omega) ((A i).mergeSort leI) (by rw [upd_same]) (by rw [upd_same]) (by rw [List.length_mergeSort]; exact HAL.out i) ai (A i).length zi (by rw [upd_same])).mono ?_; rintro e w4 ⟨rfl, hNB4, hB4, hm4⟩; obtain ⟨w5, hrun5, hR5, hg5⟩ := ((HR3.out.kept (w' := w3.drew) rfl rfl).beside hm4 hB4 HRB.out).put i hi4 HFS.out (.slice ai (dd ((A i).mergeSort leI)).length zi) 30 29 Ybad.underlying30; have s1 := hNB4.c1; have s2 := (hNB4.putm hg5 hR5.is).c1; have HREL := hid (rel5_step HNL.out hi4 HIN.out.2.2.2.2 hNB4 hR5 hg5); have HLE := hid (hR5.left_eq); clear hNB4 hB4 hm4 hR5 hg5)
                      | fail)
                  all_goals
                    go_wp2_with fail
                    go_roundw
                    case rel => exact HREL.out
                    case measure => rw [HLE.out, HRG.out.left_eq]; exact HLT.out
end Go.Proofs.YbulkagqaDoor
