import Derived.Test.YbulkagqaDoorG4
import Derived.Test.YbulkagqaDoorG5
import Derived.Deep.QuietTactic
import Derived.BigQuiet
namespace Go.Proofs.YbulkagqaDoor
open Go.RowKit Go.Lib
set_option linter.unusedVariables false
set_option linter.unusedSimpArgs false

theorem voteB_le (ins : List InD) : ∀ X : List InD, sumN (addW ins) X ≤ 2 * X.length := sumN_le _ 2 (addW_le ins)
theorem vot_cells {w : World} {base : Nat} {a : Option Addr} {n c : Nat} {ps : List (Nat × Nat)} (h : w.ownsRow base 61 2 (.slice a n c) n (ps.flatMap encT)) (hn : ps.length = n) : ∀ (i : Nat) (p : Nat × Nat), ps[i]? = some p → p.1 ≤ 5000 → ∃ g, a = some ⟨g, 0, none⟩ ∧ w.cell? ⟨g, i * 2, none⟩ = some (.int .i64 (p.1 : Nat)) ∧ w.cell? ⟨g, i * 2 + 1, none⟩ = some (.string (nm p.2)) := by
  intro i p hp hb
  have hi := (List.getElem?_eq_some_iff.1 hp).1
  rcases h.2 with ⟨_, h0⟩ | ⟨g, cap, cur, hv, _⟩
  · omega
  · simp only [Value.slice.injEq] at hv
    obtain ⟨rfl, _, rfl⟩ := hv
    have e : bd p.1 = p.1 := by unfold bd; omega
    refine ⟨g, rfl, ?_, ?_⟩
    · rw [World.ownsRow.cellAt h (i * 2) (by omega), show i * 2 = i * 2 + 0 from rfl, encT_at ps i p hp 0 (by decide)]
      simp [encT, e]
    · rw [World.ownsRow.cellAt h (i * 2 + 1) (by omega), encT_at ps i p hp 1 (by decide)]
      simp [encT]

abbrev RelW (U wr : World) (N : Nat) (s58 : Value) : Prop := ∃ k, k ≤ N ∧ s58 = .int .i64 (k : Nat) ∧ Below U.heap.size U wr
abbrev RelG (U wr : World) (N : Nat) (ps : List (Nat × Nat)) (p : Nat × Nat) (s10 s94 : Value) : Prop := ∃ k, k ≤ N ∧ s94 = .int .i64 (k : Nat) ∧ s10 = .int .i64 ((ps.take k).countP (fun v => v == p) : Nat) ∧ Below U.heap.size U wr
abbrev RelX (U wr : World) (N : Nat) (ins : List InD) (o : Nat) (d : Int) (X : List InD) (s14 s116 : Value) : Prop := ∃ k, k ≤ N ∧ s116 = .int .i64 (k : Nat) ∧ s14 = .int .i64 (sumN (addE ins o d) (X.take k) : Nat) ∧ Below U.heap.size U wr

abbrev RelV (U wr : World) (M : Nat) (ins : List InD) (X : List InD) (s5 s28 : Value) : Prop := ∃ k, k ≤ M ∧ s28 = .int .i64 (k : Nat) ∧ s5 = .int .i64 (sumN (addW ins) (X.take k) : Nat) ∧ Below U.heap.size U wr

set_option maxHeartbeats 8000000 in
set_option maxRecDepth 100000 in
theorem lawVoters_any (hNBC : NBC) (a : Option Addr) (cap : Nat) (ins : List InD) (w : World) (hI : InsAt w a ins) (hR : RulesAt w) :
    Calls Ybad.prog 5 #[.slice a ins.length cap] w fun e w' => e = .returned (.bool true) ∧ Below w.heap.size w w' := by
  have HNB := hid hNBC
  have HI := hid hI
  have HR := hid hR
  clear hNBC hI hR
  by_cases hn : ins.length ≤ 256
  · have HN := hid hn
    have HBU := hid (build_any a cap ins w hn HI.out)
    have HOK := hid (ins_ok HI.out)
    have hni : ((ins.length : Nat) : Int) ≤ 256 := by omega
    clear hn
    generalize hN : ins.length = n at *
    have HNE := hid hN
    clear hN
    go_enter Ybad.func5, Ybad.ntmps5
    go_wp2_with (first
      | (go_at_call 6; refine HBU.out.mono ?_; rintro e u1 ⟨bc, vT, vP, rfl, hC, hT, hP, hB1⟩; have HT := hid hT; have HP := hid hP; obtain ⟨ta, tz, rfl, hq1⟩ := hT; obtain ⟨pa, pz, rfl, hq2⟩ := hP; have HC := hid hC; have HB1 := hid hB1; clear hC hB1 hq1 hq2)
      | (go_at_call 7; refine (HNB.out bc ins _ (by rw [HNE.out]; exact HN.out) HOK.out (HC.out.later (fun k hk => Below.heap_alloc _ _ _ hk) (by simp)) (HR.out.later (fun k hk => (Below.heap_alloc _ _ _ (Nat.lt_of_lt_of_le hk HB1.out.size)).trans (HB1.out.block k hk)) (by have := HB1.out.size; simp; omega))).mono ?_; rintro e u2 ⟨bm, v0, v5, rfl, hO, hB2⟩; have HO := hid hO; obtain ⟨⟨b0, h0⟩, hq3, ⟨b5, ps, hq4, hq5, h5⟩⟩ := hO; obtain ⟨a0, z0, rfl⟩ := slice_of_owns h0; obtain ⟨a5, z5, rfl⟩ := slice_of_owns h5; clear h0 hq3 hq4 hq5 h5; obtain ⟨g, c, hf⟩ := HC.out.firsts; have HS := hid (st_made HC.out hf HT.out HP.out rfl rfl hB2 HO.out); have HB2 := hid hB2; have q2 := HS.out.s2; clear hf hB2))
    have HBW := hid (show Below w.heap.size w (u2.alloc (.cells #[.slice a0 (ddSort ((dsL ins).map fun d => (ixN (fsL ins) d : Int))).length z0, .map (some bm), .slice a5 (votL (fsL ins) (vtL (selX 2 ins)) (evs (selX 1 ins))).length z5] 33)) from
      (((HB1.out.alloc (by have := HB1.out.size; omega) _).trans (HB2.out.mono (by have := HB1.out.size; simp; omega))).alloc (by have h1 := HB1.out.size; have h2 := HB2.out.size; simp at h2; omega) _))
    clear q2 HB1 HB2 HC HT HP HO HBU
    generalize (u2.alloc (.cells #[.slice a0 (ddSort ((dsL ins).map fun d => (ixN (fsL ins) d : Int))).length z0, .map (some bm), .slice a5 (votL (fsL ins) (vtL (selX 2 ins)) (evs (selX 1 ins))).length z5] 33)) = U at *
    generalize u1.heap.size = bs at *
    generalize u2.heap.size = bk at *
    have HFL := hid (show (fsL ins).length ≤ 1025 from (lens (by rw [HNE.out]; exact HN.out)).1)
    have HML := hid (show (rowL 5 ins).length ≤ 256 from by have h1 := rowL_len 5 ins; have h2 := HNE.out; have h3 := HN.out; omega)
    obtain ⟨b5, ps, hps, hso, hown5⟩ := HS.out.out.vot
    have HPS := hid (ps_of hps hso)
    have HLV := hid hps.length_eq
    have HO5 := hid hown5
    clear hps hso hown5
    generalize hVN : (votL (fsL ins) (vtL (selX 2 ins)) (evs (selX 1 ins))).length = nV at *
    clear hVN
    generalize hFN : (fsL ins).length = N at *
    have HFN := hid hFN
    clear hFN
    generalize hMN : (rowL 5 ins).length = M at *
    have HMN := hid hMN
    clear hMN
    have HWB := hid (show ∀ k, sumN (addW ins) ((selX 5 ins).take k) ≤ 512 from fun k => by
      have h1 := voteB_le ins ((selX 5 ins).take k)
      have h2 : ((selX 5 ins).take k).length ≤ (selX 5 ins).length := by rw [List.length_take]; exact Nat.min_le_right _ _
      have h3 := selX_len 5 ins
      have h4 := HMN.out
      have h5 := HML.out
      omega)
    go_loopw [5, 28] (fun s5 s28 wr => RelV U wr M ins (selX 5 ins) s5 s28) (fun _ s28 _ => M - (RowKit.intOf s28).toNat)
    case atStart => exact ⟨0, Nat.zero_le _, rfl, by simp [sumN], Below.refl _ _⟩
    case round =>
      obtain ⟨k, hk, rfl, rfl, hlow⟩ := hrel
      have HLOW := hid hlow
      clear hlow
      have hwb := HWB.out k
      by_cases hkn : k < M
      · obtain ⟨x, hx⟩ : ∃ x, (selX 5 ins)[k]? = some x := ⟨_, List.getElem?_eq_getElem (by rw [selX_len, HMN.out]; exact hkn)⟩
        have hxr : (rowL 5 ins)[k]? = some (tieOf x) := by rw [rowL_eq, List.getElem?_map, hx]; rfl
        have HSW := hid (HS.out.later HLOW.out)
        obtain ⟨gt, rfl, hTA⟩ := HSW.out.tp k _ hxr
        obtain ⟨y0, y1, y2, y3, y4, y5, y6⟩ := hTA
        have HSN := hid (sumN_snoc (addW ins) (selX 5 ins) k x hx)
        clear hx hxr
        obtain ⟨i, hi4, hxi⟩ : ∃ i, i < 4 ∧ x.s % 4 = i := ⟨x.s % 4, by omega, rfl⟩
        simp only [tieOf] at y0 y1 y2 y3 y4 y5 y6
        rw [hxi] at y0
        have hvot := HSW.out.s3 i hi4
        have hi0 : (0 : Int) ≤ (i : Int) := by omega
        have hi1 : (i : Int) < 4 := by omega
        have hlb : bs < wr.heap.size := World.block_lt_of_cell? wr _ hvot
        have hki : (k : Int) < (M : Int) := by omega
        have hMb : M ≤ 256 := HML.out
        generalize hsm : sumN (addW ins) ((selX 5 ins).take k) = sm at *
        clear hsm
        generalize nm (x.o % 4) = tb at *
        generalize rl (x.r % 11) = tr at *
        obtain ⟨tF, htF⟩ : ∃ tF, x.F = tF := ⟨_, rfl⟩
        obtain ⟨tT, htT⟩ : ∃ tT, x.T = tT := ⟨_, rfl⟩
        rw [htF] at y4
        rw [htT] at y5
        by_cases hv : voteB i ins = true
        · rw [hv] at hvot
          by_cases hF : tF = -2147483648
          · have bF : (tF != -2147483648) = false := by simp [hF]
            by_cases hT : tT = 2147483647
            · have bT : (tT != 2147483647) = false := by simp [hT]
              have HAD := hid (show addW ins x = 0 from by simp [addW, hxi, hv, htF, htT, hF, hT])
              clear hF hT htF htT hv hxi
              go_wp2_with (go_at_call 12; refine (idx_any i _ hi4).mono ?_; rintro e w9 ⟨rfl, rfl⟩)
              go_roundw
              case rel => exact ⟨k + 1, hkn, by go_num, by rw [HSN.out, HAD.out]; rfl, HLOW.out.alloc HLOW.out.size _⟩
              case measure => simp [RowKit.intOf]; omega
            · have bT : (tT != 2147483647) = true := by simp [hT]
              have HAD := hid (show addW ins x = 1 from by simp [addW, hxi, hv, htF, htT, hF, hT])
              clear hF hT htF htT hv hxi
              go_wp2_with (go_at_call 12; refine (idx_any i _ hi4).mono ?_; rintro e w9 ⟨rfl, rfl⟩)
              go_roundw
              case rel => exact ⟨k + 1, hkn, by go_num, by rw [HSN.out, HAD.out]; go_num, HLOW.out.alloc HLOW.out.size _⟩
              case measure => simp [RowKit.intOf]; omega
          · have bF : (tF != -2147483648) = true := by simp [hF]
            by_cases hT : tT = 2147483647
            · have bT : (tT != 2147483647) = false := by simp [hT]
              have HAD := hid (show addW ins x = 1 from by simp [addW, hxi, hv, htF, htT, hF, hT])
              clear hF hT htF htT hv hxi
              go_wp2_with (go_at_call 12; refine (idx_any i _ hi4).mono ?_; rintro e w9 ⟨rfl, rfl⟩)
              go_roundw
              case rel => exact ⟨k + 1, hkn, by go_num, by rw [HSN.out, HAD.out]; go_num, HLOW.out.alloc HLOW.out.size _⟩
              case measure => simp [RowKit.intOf]; omega
            · have bT : (tT != 2147483647) = true := by simp [hT]
              have HAD := hid (show addW ins x = 2 from by simp [addW, hxi, hv, htF, htT, hF, hT])
              clear hF hT htF htT hv hxi
              go_wp2_with (go_at_call 12; refine (idx_any i _ hi4).mono ?_; rintro e w9 ⟨rfl, rfl⟩)
              go_roundw
              case rel => exact ⟨k + 1, hkn, by go_num, by rw [HSN.out, HAD.out]; go_num, HLOW.out.alloc HLOW.out.size _⟩
              case measure => simp [RowKit.intOf]; omega
        · have hv2 : voteB i ins = false := by simpa using hv
          rw [hv2] at hvot
          have HAD := hid (show addW ins x = 0 from by simp [addW, hxi, hv])
          clear hv hv2 htF htT hxi
          go_wp2_with (go_at_call 12; refine (idx_any i _ hi4).mono ?_; rintro e w9 ⟨rfl, rfl⟩)
          go_roundw
          case rel => exact ⟨k + 1, hkn, by go_num, by rw [HSN.out, HAD.out]; rfl, HLOW.out.alloc HLOW.out.size _⟩
          case measure => simp [RowKit.intOf]; omega
      · have hkn2 : k = M := by omega
        subst hkn2
        clear hkn hk hwb
        rw [List.take_of_length_le (by rw [selX_len, HMN.out]; exact Nat.le_refl _), ← HPS.out.len, HLV.out]
        have HSW := hid (HS.out.later HLOW.out)
        have k2 := HSW.out.k2
        go_wp2_with fail
        clear k2
        have HNV := hid (show nV ≤ 512 from by
          have h1 := HLV.out
          have h2 := HPS.out.len
          have h3 := HWB.out k
          rw [List.take_of_length_le (by rw [selX_len, HMN.out]; exact Nat.le_refl _)] at h3
          omega)
        go_loopw [58] (fun s58 wr => RelW U wr nV s58) (fun s58 _ => nV - (RowKit.intOf s58).toNat)
        case atStart => exact ⟨0, Nat.zero_le _, rfl, HLOW.out⟩
        case round =>
          clear HLOW HSW
          obtain ⟨i, hi, rfl, hlow⟩ := hrel
          have HLOW := hid hlow
          clear hlow
          by_cases hin : i < nV
          · obtain ⟨p, hp⟩ : ∃ p, ps[i]? = some p := ⟨_, List.getElem?_eq_getElem (by rw [HLV.out]; exact hin)⟩
            obtain ⟨hs, ho4⟩ := HPS.out.mem p (List.mem_of_getElem? hp)
            have HSW := hid (HS.out.later HLOW.out)
            have HOW := hid (own_later HO5.out HLOW.out.block)
            obtain ⟨g5, rfl, c0, c1⟩ := vot_cells HOW.out HLV.out i p hp (by have := HFL.out; rw [HFN.out] at hs; omega)
            have HPI := hid hp
            obtain ⟨d, hd⟩ : ∃ d, (fsL ins)[p.1]? = some d := ⟨_, List.getElem?_eq_getElem hs⟩
            rw [HFN.out] at hs
            have HDP := hid hd
            clear hp hd
            have hii : (i : Int) < (nV : Int) := by omega
            have hNb : nV ≤ 512 := HNV.out
            have hFb : N ≤ 1025 := HFL.out
            obtain ⟨s, o⟩ := p
            simp only at hs ho4 c0 c1
            have k2 := HSW.out.k2
            have hlk : bk < wr.heap.size := World.block_lt_of_cell? wr _ k2
            have hl5 : g5 < wr.heap.size := World.block_lt_of_cell? wr _ c0
            go_wp2_with fail
            go_cut [76] (fun s76 wc => s76 = .bool false ∧ Below U.heap.size U wc ∧ wc.cell? ⟨wr.heap.size, 0, none⟩ = some (.int .i64 (s : Nat)) ∧ wc.cell? ⟨wr.heap.size, 1, none⟩ = some (.string (nm o)))
            case first =>
              by_cases hi0 : i = 0
              · subst hi0
                go_quiet (fail)
                all_goals (go_wp2_with fail; go_meet; exact ⟨rfl, below_drewN (HLOW.out.alloc HLOW.out.size _) _, by simp, by simp⟩)
              · obtain ⟨i', rfl⟩ : ∃ i', i = i' + 1 := ⟨i - 1, by omega⟩
                obtain ⟨p', hp'⟩ : ∃ p', ps[i']? = some p' := ⟨_, List.getElem?_eq_getElem (by rw [HLV.out]; omega)⟩
                have hb' : p'.1 < 1026 := by have h1 := (HPS.out.mem p' (List.mem_of_getElem? hp')).1; rw [HFN.out] at h1; omega
                obtain ⟨g6, eg6, c0', c1'⟩ := vot_cells HOW.out HLV.out i' p' hp' (by omega)
                simp only [Option.some.injEq, Addr.mk.injEq, and_true] at eg6
                subst eg6
                have hle : decide ((s : Int) < (p'.1 : Int)) = false := by
                  have h1 := List.pairwise_iff_getElem.1 HPS.out.ord i' (i' + 1) (by rw [HLV.out]; omega) (by rw [HLV.out]; omega) (by omega)
                  have e1 : ps[i']'(by rw [HLV.out]; omega) = p' := (List.getElem?_eq_some_iff.1 hp').2
                  have e2 : ps[i' + 1]'(by rw [HLV.out]; omega) = (s, o) := (List.getElem?_eq_some_iff.1 HPI.out).2
                  rw [e1, e2] at h1
                  unfold bd at h1
                  simp only [decide_eq_false_iff_not]
                  omega
                obtain ⟨s', o'⟩ := p'
                simp only at hle c0' c1' hb'
                have hip : (0 : Int) < ((i' + 1 : Nat) : Int) := by omega
                have hsub : ((i' + 1 : Nat) : Int) - 1 = (i' : Int) := by omega
                have hib0 : (0 : Int) ≤ (i' : Int) := by omega
                have hib : (i' : Int) < (nV : Int) := by omega
                have HNLT := hid (show ¬ s < s' from by have h := hle; simp only [decide_eq_false_iff_not] at h; omega)
                clear hi0 hp'
                go_quiet (fail)
                all_goals (go_wp2_with fail; go_meet; exact ⟨by have h := HNLT.out; simp; omega, below_drewN (HLOW.out.alloc HLOW.out.size _) _, by simp, by simp⟩)
            case rest =>
              obtain ⟨rfl, hB2, x0, x1⟩ := hcut
              generalize hb9 : wr.heap.size = b9 at *
              clear hb9
              have HB2 := hid hB2
              have HS2 := hid (HS.out.later hB2)
              have HO2 := hid (own_later HO5.out hB2.block)
              clear hB2 c0 c1 k2 hlk hl5 HSW HOW HLOW
              have s0 := HS2.out.s0
              have f6 := HS2.out.f6
              rw [HFN.out] at f6
              have k2 := HS2.out.k2
              have hs1 : decide ((s : Int) < 0) = false := by simp
              have hs2 : decide ((N : Int) ≤ (s : Int)) = false := by simp; omega
              go_wp2_with fail
              go_quiet (fail)
              go_wp2_with fail
              have hNs : decide (N ≤ s) = false := by simp; omega
              rw [hNs]
              clear s0 f6 k2 hs1 hs2 hNs
              have HX0 := hid x0
              have HX1 := hid x1
              clear x0 x1
              go_loopw [10, 94] (fun s10 s94 wq => RelG wc wq nV ps (s, o) s10 s94) (fun _ s94 _ => nV - (RowKit.intOf s94).toNat)
              case atStart => exact ⟨0, Nat.zero_le _, rfl, by simp, below_drewN (Below.refl _ _) _⟩
              case round =>
                obtain ⟨j, hj, rfl, rfl, hlow⟩ := hrel
                have HLOW := hid hlow
                clear hlow
                have hct : (ps.take j).countP (fun v => v == (s, o)) ≤ j := by
                  have h1 := List.countP_le_length (p := fun v => v == (s, o)) (l := ps.take j)
                  have h2 : (ps.take j).length ≤ j := by rw [List.length_take]; exact Nat.min_le_left _ _
                  omega
                have x0 := (HLOW.out.cell (p := ⟨b9, 0, none⟩) (World.block_lt_of_cell? wc _ HX0.out)).trans HX0.out
                have x1 := (HLOW.out.cell (p := ⟨b9, 1, none⟩) (World.block_lt_of_cell? wc _ HX1.out)).trans HX1.out
                have hl9 : b9 < wr.heap.size := World.block_lt_of_cell? wr _ x0
                by_cases hjn : j < nV
                · obtain ⟨p', hp'⟩ : ∃ p', ps[j]? = some p' := ⟨_, List.getElem?_eq_getElem (by rw [HLV.out]; exact hjn)⟩
                  have hm' := HPS.out.mem p' (List.mem_of_getElem? hp')
                  rw [HFN.out] at hm'
                  obtain ⟨g6, eg6, c0', c1'⟩ := vot_cells (own_later HO2.out HLOW.out.block) HLV.out j p' hp' (by omega)
                  simp only [Option.some.injEq, Addr.mk.injEq, and_true] at eg6
                  subst eg6
                  have HCN := hid (show (ps.take (j + 1)).countP (fun v => v == (s, o)) = (ps.take j).countP (fun v => v == (s, o)) + (if p' = (s, o) then 1 else 0) from by
                    rw [take_snoc ps j p' hp', List.countP_append]
                    congr 1
                    by_cases h : p' = (s, o)
                    · simp [h]
                    · simp [h])
                  obtain ⟨s', o'⟩ := p'
                  obtain ⟨hm1, hm2⟩ := hm'
                  simp only at hm1 hm2 c0' c1'
                  have hji : (j : Int) < (nV : Int) := by omega
                  clear hp'
                  generalize (ps.take j).countP (fun v => v == (s, o)) = ct at *
                  by_cases hss : s' = s
                  · subst hss
                    by_cases hoo : o' = o
                    · subst hoo
                      go_wp2_with fail
                      go_roundw
                      case rel => exact ⟨j + 1, hjn, by go_num, by rw [HCN.out, if_pos rfl]; go_num, HLOW.out.alloc HLOW.out.size _⟩
                      case measure => simp [RowKit.intOf]; omega
                    · obtain ⟨n1, n2, n3⟩ := nm_ne hm2 ho4 hoo
                      have HNE2 := hid (show ¬ ((s', o') = (s', o)) from fun h => hoo (Prod.mk.inj h).2)
                      clear hoo
                      go_wp2_with fail
                      go_roundw
                      case rel => exact ⟨j + 1, hjn, by go_num, by rw [HCN.out, if_neg HNE2.out]; rfl, HLOW.out.alloc HLOW.out.size _⟩
                      case measure => simp [RowKit.intOf]; omega
                  · have HNE2 := hid (show ¬ ((s', o') = (s, o)) from fun h => hss (Prod.mk.inj h).1)
                    have hsi : ¬ ((s' : Int) = (s : Int)) := by omega
                    have hsb : ((s' : Int) == (s : Int)) = false := by simp; omega
                    go_wp2_with fail
                    go_roundw
                    case rel => exact ⟨j + 1, hjn, by go_num, by rw [HCN.out, if_neg HNE2.out]; rfl, HLOW.out.alloc HLOW.out.size _⟩
                    case measure => simp [RowKit.intOf]; omega
                · have hjn2 : j = nV := by omega
                  subst hjn2
                  clear hjn hj
                  have HGOT := hid (show (ps.take j).countP (fun v => v == (s, o)) = sumN (addE ins o d) (selX 5 ins) from by
                    rw [List.take_of_length_le (by rw [HLV.out]; exact Nat.le_refl _)]
                    exact HPS.out.cnt (s, o) d HDP.out)
                  generalize (ps.take j).countP (fun v => v == (s, o)) = ct at *
                  have HS3 := hid (HS2.out.later HLOW.out)
                  have s0 := HS3.out.s0
                  have f6 := HS3.out.f6
                  rw [HFN.out] at f6
                  have yd := HS3.out.fd s (by rw [HFN.out]; exact hs)
                  rw [show (fsL ins).getD s 0 = d from by rw [List.getD_eq_getElem?_getD, HDP.out]; rfl] at yd
                  have s2 := HS3.out.s2
                  rw [HMN.out] at s2
                  have hs0 : (0 : Int) ≤ (s : Int) := by omega
                  have hsN : (s : Int) < (N : Int) := by omega
                  go_wp2_with fail
                  go_quiet (fail)
                  go_wp2_with fail
                  clear s0 f6 yd s2 x0 x1 hl9
                  have HGE := hid (sumN_le (addE ins o d) 2 (addE_le ins o d))
                  have HBL := hid HLOW.out
                  go_loopw [14, 116] (fun s14 s116 wq => RelX wc wq k ins o d (selX 5 ins) s14 s116) (fun _ s116 _ => k - (RowKit.intOf s116).toNat)
                  case atStart => exact ⟨0, Nat.zero_le _, rfl, by simp [sumN], below_drewN HBL.out _⟩
                  case round =>
                    clear HLOW HBL HS3
                    obtain ⟨q, hq, rfl, rfl, hlow⟩ := hrel
                    have HLW := hid hlow
                    clear hlow
                    have hsm : sumN (addE ins o d) ((selX 5 ins).take q) ≤ 512 := by
                      have h1 := HGE.out ((selX 5 ins).take q)
                      have h2 : ((selX 5 ins).take q).length ≤ (selX 5 ins).length := by rw [List.length_take]; exact Nat.min_le_right _ _
                      have h3 := selX_len 5 ins
                      have h4 := HMN.out
                      have h5 := HML.out
                      omega
                    by_cases hqn : q < k
                    · obtain ⟨x, hx⟩ : ∃ x, (selX 5 ins)[q]? = some x := ⟨_, List.getElem?_eq_getElem (by rw [selX_len, HMN.out]; exact hqn)⟩
                      have hxr : (rowL 5 ins)[q]? = some (tieOf x) := by rw [rowL_eq, List.getElem?_map, hx]; rfl
                      have HS4 := hid (HS2.out.later HLW.out)
                      obtain ⟨gt, egt, hTA⟩ := HS4.out.tp q _ hxr
                      subst egt
                      obtain ⟨y0, y1, y2, y3, y4, y5, y6⟩ := hTA
                      obtain ⟨hT0, hT1⟩ := rowL_T 5 ins HOK.out _ (List.mem_of_getElem? hxr)
                      have HSN := hid (sumN_snoc (addE ins o d) (selX 5 ins) q x hx)
                      clear hx hxr
                      obtain ⟨i', hi4, hxi⟩ : ∃ i', i' < 4 ∧ x.s % 4 = i' := ⟨x.s % 4, by omega, rfl⟩
                      obtain ⟨o', ho4', hxo⟩ : ∃ o', o' < 4 ∧ x.o % 4 = o' := ⟨x.o % 4, by omega, rfl⟩
                      simp only [tieOf] at y0 y1 y2 y3 y4 y5 y6 hT0 hT1
                      rw [hxi] at y0
                      rw [hxo] at y2
                      have hvot := HS4.out.s3 i' hi4
                      have hi0 : (0 : Int) ≤ (i' : Int) := by omega
                      have hi1 : (i' : Int) < 4 := by omega
                      have hlb : bs < wr.heap.size := World.block_lt_of_cell? wr _ hvot
                      have x1 := (HLW.out.cell (p := ⟨b9, 1, none⟩) (World.block_lt_of_cell? wc _ HX1.out)).trans HX1.out
                      have hl9 : b9 < wr.heap.size := World.block_lt_of_cell? wr _ x1
                      have hqi : (q : Int) < (k : Int) := by omega
                      have hMb : k ≤ 256 := HML.out
                      generalize hsme : sumN (addE ins o d) ((selX 5 ins).take q) = sm at *
                      clear hsme
                      generalize rl (x.r % 11) = tr at *
                      obtain ⟨tF, htF⟩ : ∃ tF, x.F = tF := ⟨_, rfl⟩
                      obtain ⟨tT, htT⟩ : ∃ tT, x.T = tT := ⟨_, rfl⟩
                      rw [htF] at y4
                      rw [htT] at y5 hT0 hT1
                      by_cases hv : voteB i' ins = true
                      · rw [hv] at hvot
                        by_cases hoo : o' = o
                        · subst hoo
                          by_cases hF : fromB tF d = true
                          · by_cases hT : toB tT d = true
                            · skip
                              have HAD := hid (show addE ins o' d x = 2 from by simp [addE, hxi, hv, hxo, htF, htT, hF, hT])
                              clear hv hxi hxo htF htT
                              go_wp2_with (first
                                | (go_at_call 12; refine (idx_any i' _ hi4).mono ?_; rintro e w9 ⟨rfl, rfl⟩)
                                | (go_at_call 8; refine (from_any _ _ _ _ tF tT 0 d _).mono ?_; rintro e w3 ⟨rfl, hb3⟩; have HQ3 := hid ((HLW.out.alloc HLW.out.size _).trans (hb3.mono (by have := HLW.out.size; simp; omega))); obtain ⟨yy0, yy1, yy2, yy3, yy4, yy5, yy6⟩ := tie_copy hb3; simp only [Nat.zero_add] at yy0 yy1 yy2 yy3 yy4 yy5 yy6; clear hb3)
                                | (go_at_call 9; refine (to_any _ _ _ _ tF tT 0 d _ hT0 hT1).mono ?_; rintro e w4 ⟨rfl, hb4⟩; have HQ4 := hid (HQ3.out.trans (hb4.mono HQ3.out.size)); clear hb4))
                              go_roundw
                              case rel => exact ⟨q + 1, hqn, by go_num, by rw [HSN.out, HAD.out]; go_num, HQ4.out⟩
                              case measure => simp [RowKit.intOf]; omega
                            · have hT2 : toB tT d = false := by simpa using hT
                              clear hT
                              have HAD := hid (show addE ins o' d x = 1 from by simp [addE, hxi, hv, hxo, htF, htT, hF, hT2])
                              clear hv hxi hxo htF htT
                              go_wp2_with (first
                                | (go_at_call 12; refine (idx_any i' _ hi4).mono ?_; rintro e w9 ⟨rfl, rfl⟩)
                                | (go_at_call 8; refine (from_any _ _ _ _ tF tT 0 d _).mono ?_; rintro e w3 ⟨rfl, hb3⟩; have HQ3 := hid ((HLW.out.alloc HLW.out.size _).trans (hb3.mono (by have := HLW.out.size; simp; omega))); obtain ⟨yy0, yy1, yy2, yy3, yy4, yy5, yy6⟩ := tie_copy hb3; simp only [Nat.zero_add] at yy0 yy1 yy2 yy3 yy4 yy5 yy6; clear hb3)
                                | (go_at_call 9; refine (to_any _ _ _ _ tF tT 0 d _ hT0 hT1).mono ?_; rintro e w4 ⟨rfl, hb4⟩; have HQ4 := hid (HQ3.out.trans (hb4.mono HQ3.out.size)); clear hb4))
                              go_roundw
                              case rel => exact ⟨q + 1, hqn, by go_num, by rw [HSN.out, HAD.out]; go_num, HQ4.out⟩
                              case measure => simp [RowKit.intOf]; omega
                          · have hF2 : fromB tF d = false := by simpa using hF
                            clear hF
                            by_cases hT : toB tT d = true
                            · skip
                              have HAD := hid (show addE ins o' d x = 1 from by simp [addE, hxi, hv, hxo, htF, htT, hF2, hT])
                              clear hv hxi hxo htF htT
                              go_wp2_with (first
                                | (go_at_call 12; refine (idx_any i' _ hi4).mono ?_; rintro e w9 ⟨rfl, rfl⟩)
                                | (go_at_call 8; refine (from_any _ _ _ _ tF tT 0 d _).mono ?_; rintro e w3 ⟨rfl, hb3⟩; have HQ3 := hid ((HLW.out.alloc HLW.out.size _).trans (hb3.mono (by have := HLW.out.size; simp; omega))); obtain ⟨yy0, yy1, yy2, yy3, yy4, yy5, yy6⟩ := tie_copy hb3; simp only [Nat.zero_add] at yy0 yy1 yy2 yy3 yy4 yy5 yy6; clear hb3)
                                | (go_at_call 9; refine (to_any _ _ _ _ tF tT 0 d _ hT0 hT1).mono ?_; rintro e w4 ⟨rfl, hb4⟩; have HQ4 := hid (HQ3.out.trans (hb4.mono HQ3.out.size)); clear hb4))
                              go_roundw
                              case rel => exact ⟨q + 1, hqn, by go_num, by rw [HSN.out, HAD.out]; go_num, HQ4.out⟩
                              case measure => simp [RowKit.intOf]; omega
                            · have hT2 : toB tT d = false := by simpa using hT
                              clear hT
                              have HAD := hid (show addE ins o' d x = 0 from by simp [addE, hxi, hv, hxo, htF, htT, hF2, hT2])
                              clear hv hxi hxo htF htT
                              go_wp2_with (first
                                | (go_at_call 12; refine (idx_any i' _ hi4).mono ?_; rintro e w9 ⟨rfl, rfl⟩)
                                | (go_at_call 8; refine (from_any _ _ _ _ tF tT 0 d _).mono ?_; rintro e w3 ⟨rfl, hb3⟩; have HQ3 := hid ((HLW.out.alloc HLW.out.size _).trans (hb3.mono (by have := HLW.out.size; simp; omega))); obtain ⟨yy0, yy1, yy2, yy3, yy4, yy5, yy6⟩ := tie_copy hb3; simp only [Nat.zero_add] at yy0 yy1 yy2 yy3 yy4 yy5 yy6; clear hb3)
                                | (go_at_call 9; refine (to_any _ _ _ _ tF tT 0 d _ hT0 hT1).mono ?_; rintro e w4 ⟨rfl, hb4⟩; have HQ4 := hid (HQ3.out.trans (hb4.mono HQ3.out.size)); clear hb4))
                              go_roundw
                              case rel => exact ⟨q + 1, hqn, by go_num, by rw [HSN.out, HAD.out]; rfl, HQ4.out⟩
                              case measure => simp [RowKit.intOf]; omega
                        · obtain ⟨n1, n2, n3⟩ := nm_ne ho4' ho4 hoo
                          have HAD := hid (show addE ins o d x = 0 from by simp [addE, hxo, hoo])
                          clear hoo hv hxi hxo htF htT
                          go_wp2_with (go_at_call 12; refine (idx_any i' _ hi4).mono ?_; rintro e w9 ⟨rfl, rfl⟩)
                          go_roundw
                          case rel => exact ⟨q + 1, hqn, by go_num, by rw [HSN.out, HAD.out]; rfl, HLW.out.alloc HLW.out.size _⟩
                          case measure => simp [RowKit.intOf]; omega
                      · have hv2 : voteB i' ins = false := by simpa using hv
                        rw [hv2] at hvot
                        have HAD := hid (show addE ins o d x = 0 from by simp [addE, hxi, hv])
                        clear hv hv2 hxi hxo htF htT
                        go_wp2_with (go_at_call 12; refine (idx_any i' _ hi4).mono ?_; rintro e w9 ⟨rfl, rfl⟩)
                        go_roundw
                        case rel => exact ⟨q + 1, hqn, by go_num, by rw [HSN.out, HAD.out]; rfl, HLW.out.alloc HLW.out.size _⟩
                        case measure => simp [RowKit.intOf]; omega
                    · have hqn2 : q = k := by omega
                      subst hqn2
                      clear hqn hq hsm
                      rw [List.take_of_length_le (by rw [selX_len, HMN.out]; exact Nat.le_refl _), ← HGOT.out]
                      go_wp2_with fail
                      go_roundw
                      case rel => exact ⟨i + 1, hin, by go_num, HB2.out.trans (HLW.out.mono HB2.out.size)⟩
                      case measure => simp [RowKit.intOf]; omega
          · have hin2 : i = nV := by omega
            subst hin2
            go_wp2_with fail
            go_ret
            exact ⟨rfl, HBW.out.trans (HLOW.out.mono HBW.out.size)⟩
  · have hgt : (256 : Int) < (ins.length : Int) := by omega
    generalize ins.length = n at *
    go_enter Ybad.func5, Ybad.ntmps5
    go_wp2
    go_ret
    exact ⟨rfl, Below.refl _ _⟩
end Go.Proofs.YbulkagqaDoor
