import Derived.Test.YbulkagqaDoorG3
namespace Go.Proofs.YbulkagqaDoor
open Go.RowKit Go.Lib
set_option linter.unusedVariables false
set_option linter.unusedSimpArgs false

def hitX (j : Nat) (X : List InD) (d : Int) : Bool := X.any fun x => (x.o % 4 == j) && (fromB x.F d || toB x.T d)
theorem hitX_eq (ins : List InD) (j : Nat) (d : Int) : hitB (postsAt ins j) d = hitX j (selX 5 ins) d := by
  rw [Bool.eq_iff_iff]
  simp only [hitB, hitX, postsAt, List.any_eq_true, List.mem_map, List.mem_filter, Bool.and_eq_true]
  constructor
  · rintro ⟨t, ⟨x, ⟨h1, h2⟩, rfl⟩, h3⟩
    exact ⟨x, h1, h2, h3⟩
  · rintro ⟨x, h1, h2, h3⟩
    exact ⟨tieOf x, ⟨x, ⟨h1, h2⟩, rfl⟩, h3⟩
theorem hitX_take (j : Nat) (X : List InD) (q : Nat) (x : InD) (d : Int) (h : X[q]? = some x) : hitX j (X.take (q + 1)) d = (hitX j (X.take q) d || ((x.o % 4 == j) && (fromB x.F d || toB x.T d))) := by
  rw [take_snoc X q x h]; simp [hitX]
theorem hitX_of (j : Nat) (X : List InD) (q : Nat) (x : InD) (d : Int) (h : X[q]? = some x) (ho : x.o % 4 = j) (hb : (fromB x.F d || toB x.T d) = true) : hitX j X d = true := by
  simp only [hitX, List.any_eq_true]
  exact ⟨x, List.mem_of_getElem? h, by simp [ho, hb]⟩

theorem nm_ne {o j : Nat} (ho : o < 4) (hj : j < 4) (h : o ≠ j) : (nm o == nm j) = false ∧ ((nm o).toList == (nm j).toList) = false ∧ (nm o = nm j) = False := by
  have h1 : nm o ≠ nm j := fun e => h (nm_inj o ho j hj e)
  refine ⟨?_, ?_, by simp [h1]⟩
  · have ha : o = 0 ∨ o = 1 ∨ o = 2 ∨ o = 3 := by omega
    have hb : j = 0 ∨ j = 1 ∨ j = 2 ∨ j = 3 := by omega
    rcases ha with rfl | rfl | rfl | rfl <;> rcases hb with rfl | rfl | rfl | rfl <;> first | exact absurd rfl h | rfl
  · have ha : o = 0 ∨ o = 1 ∨ o = 2 ∨ o = 3 := by omega
    have hb : j = 0 ∨ j = 1 ∨ j = 2 ∨ j = 3 := by omega
    rcases ha with rfl | rfl | rfl | rfl <;> rcases hb with rfl | rfl | rfl | rfl <;> first | exact absurd rfl h | simp [nm]

/-- How many of the first j organisations have a turn. -/
def cA (A : Nat → List Int) : Nat → Nat
  | 0 => 0
  | j + 1 => cA A j + (if A j = [] then 0 else 1)
theorem cA_le (A : Nat → List Int) : ∀ j, cA A j ≤ j
  | 0 => Nat.le_refl _
  | j + 1 => by have := cA_le A j; unfold cA; split <;> omega
theorem cA_cnt {A : Nat → List Int} {f : Nat → Option Value} (h : ∀ j, j < 4 → (f j).isSome = !decide (A j = [])) : cA A 4 = cntF f := by
  have e : ∀ j, j < 4 → one f j = if A j = [] then 0 else 1 := fun j hj => by
    unfold one
    rw [h j hj]
    by_cases e : A j = [] <;> simp [e]
  unfold cntF
  rw [e 0 (by decide), e 1 (by decide), e 2 (by decide), e 3 (by decide)]
  simp [cA]

abbrev RelC (U wr : World) (A : Nat → List Int) (s5 s6 : Value) : Prop := ∃ j, j ≤ 4 ∧ s6 = .int .i64 (j : Nat) ∧ s5 = .int .i64 (cA A j : Nat) ∧ Below U.heap.size U wr
abbrev RelD (U wr : World) (N : Nat) (fs : List Int) (T : List TieD) (s8 s36 : Value) : Prop := ∃ k, k ≤ N ∧ s36 = .int .i64 (k : Nat) ∧ RowW U wr s8 (wantL fs T k)
abbrev RelE (U wr : World) (M : Nat) (L : List Int) (j : Nat) (X : List InD) (d : Int) (s8 s44 : Value) : Prop := ∃ q, q ≤ M ∧ s44 = .int .i64 (q : Nat) ∧ hitX j (X.take q) d = false ∧ RowW U wr s8 L

set_option maxHeartbeats 8000000 in
set_option maxRecDepth 100000 in
theorem lawAt_any (hNBC : NBC) (a : Option Addr) (cap : Nat) (ins : List InD) (w : World) (hI : InsAt w a ins) (hR : RulesAt w) :
    Calls Ybad.prog 4 #[.slice a ins.length cap] w fun e w' => e = .returned (.bool true) ∧ Below w.heap.size w w' := by
  have HNB := hid hNBC
  have HI := hid hI
  have HR := hid hR
  clear hNBC hI hR
  by_cases hn : ins.length ≤ 256
  · have HN := hid hn
    have HBU := hid (build_any a cap ins w hn HI.out)
    have HOK := hid (ins_ok HI.out)
    have HA := hid (at_law ins)
    have hni : ((ins.length : Nat) : Int) ≤ 256 := by omega
    clear hn
    generalize hN : ins.length = n at *
    have HNE := hid hN
    clear hN
    go_enter Ybad.func4, Ybad.ntmps4
    go_wp2_with (first
      | (go_at_call 6; refine HBU.out.mono ?_; rintro e u1 ⟨bc, vT, vP, rfl, hC, hT, hP, hB1⟩; have HT := hid hT; have HP := hid hP; obtain ⟨ta, tz, rfl, hq1⟩ := hT; obtain ⟨pa, pz, rfl, hq2⟩ := hP; have HC := hid hC; have HB1 := hid hB1; clear hC hB1 hq1 hq2)
      | (go_at_call 7; refine (HNB.out bc ins _ (by rw [HNE.out]; exact HN.out) HOK.out (HC.out.later (fun k hk => Below.heap_alloc _ _ _ hk) (by simp)) (HR.out.later (fun k hk => (Below.heap_alloc _ _ _ (Nat.lt_of_lt_of_le hk HB1.out.size)).trans (HB1.out.block k hk)) (by have := HB1.out.size; simp; omega))).mono ?_; rintro e u2 ⟨bm, v0, v5, rfl, hO, hB2⟩; have HO := hid hO; obtain ⟨⟨b0, h0⟩, hq3, ⟨b5, ps, hq4, hq5, h5⟩⟩ := hO; obtain ⟨a0, z0, rfl⟩ := slice_of_owns h0; obtain ⟨a5, z5, rfl⟩ := slice_of_owns h5; clear h0 hq3 hq4 hq5 h5; obtain ⟨g, c, hf⟩ := HC.out.firsts; have HS := hid (st_made HC.out hf HT.out HP.out rfl rfl hB2 HO.out); have HB2 := hid hB2; clear hf hB2))
    have HBW := hid (show Below w.heap.size w (u2.alloc (.cells #[.slice a0 (ddSort ((dsL ins).map fun d => (ixN (fsL ins) d : Int))).length z0, .map (some bm), .slice a5 (votL (fsL ins) (vtL (selX 2 ins)) (evs (selX 1 ins))).length z5] 33)) from
      (((HB1.out.alloc (by have := HB1.out.size; omega) _).trans (HB2.out.mono (by have := HB1.out.size; simp; omega))).alloc (by have h1 := HB1.out.size; have h2 := HB2.out.size; simp at h2; omega) _))
    clear HB1 HB2 HC HT HP HO HBU
    generalize (u2.alloc (.cells #[.slice a0 (ddSort ((dsL ins).map fun d => (ixN (fsL ins) d : Int))).length z0, .map (some bm), .slice a5 (votL (fsL ins) (vtL (selX 2 ins)) (evs (selX 1 ins))).length z5] 33)) = U at *
    generalize u1.heap.size = bs at *
    generalize u2.heap.size = bk at *
    have HFL := hid (show (fsL ins).length ≤ 1025 from (lens (by rw [HNE.out]; exact HN.out)).1)
    have HML := hid (show (rowL 5 ins).length ≤ 256 from by have h1 := rowL_len 5 ins; have h2 := HNE.out; have h3 := HN.out; omega)
    obtain ⟨f, hMp, hf⟩ := HS.out.out.at_
    have HMP := hid hMp
    have HF := hid hf
    clear hMp hf
    have HCA := hid (show cA (atL (fsL ins) (evs (selX 1 ins))) 4 = cntF f from cA_cnt (fun j hj => by
      rcases HF.out j hj with ⟨h1, h2⟩ | ⟨h1, v, b, h2, _⟩
      · simp [h1, h2]
      · simp [h1, h2]))
    generalize hFN : (fsL ins).length = N at *
    have HFN := hid hFN
    clear hFN
    generalize hMN : (rowL 5 ins).length = M at *
    have HMN := hid hMN
    clear hMN
    generalize hAA : atL (fsL ins) (evs (selX 1 ins)) = A at *
    clear hAA
    go_loopw [5, 6] (fun s5 s6 wr => RelC U wr A s5 s6) (fun _ s6 _ => 4 - (RowKit.intOf s6).toNat)
    case atStart => exact ⟨0, Nat.zero_le _, rfl, rfl, Below.refl _ _⟩
    case round =>
      obtain ⟨j, hj, rfl, rfl, hlow⟩ := hrel
      have HLOW := hid hlow
      clear hlow
      have hcj : cA A j ≤ j := cA_le A j
      by_cases hj4 : j < 4
      · have hji : (j : Int) < 4 := by omega
        have HSW := hid (HS.out.later HLOW.out)
        have s0 := HSW.out.s0
        have f6 := HSW.out.f6
        rw [HFN.out] at f6
        have HNM := hid (name_any j · (by omega : j < 256))
        have hm4 : j % 4 = j := Nat.mod_eq_of_lt hj4
        generalize hcc : cA A j = cc at *
        have HCC := hid hcc
        clear hcc
        go_wp2_with (first
          | (go_at_call 11; refine (HNM.out _).mono ?_; rintro e w3 ⟨rfl, rfl⟩))
        clear s0 f6 hm4
        have HATJ := hid (HA.out j)
        go_loopw [8, 36] (fun s8 s36 wr => RelD U wr N (fsL ins) (postsAt ins j) s8 s36) (fun _ s36 _ => N - (RowKit.intOf s36).toNat)
        case atStart => exact ⟨0, Nat.zero_le _, rfl, ⟨World.ownsRow_nil _ _ _ _, HLOW.out⟩⟩
        case round =>
          clear HLOW HSW HNM
          obtain ⟨k, hk, rfl, hW⟩ := hrel
          have HW := hid hW
          clear hW
          by_cases hkn : k < N
          · have hkl : k < (fsL ins).length := by rw [HFN.out]; exact hkn
            obtain ⟨d, hd⟩ : ∃ d, (fsL ins)[k]? = some d := ⟨_, List.getElem?_eq_getElem hkl⟩
            have hgd : (fsL ins).getD k 0 = d := by rw [List.getD_eq_getElem?_getD, hd]; rfl
            have HSW := hid (HS.out.later HW.out.low)
            have y := HSW.out.fd k hkl
            rw [hgd] at y
            have HGD := hid hgd
            clear hgd hd hkl
            have s2 := HSW.out.s2
            rw [HMN.out] at s2
            have hki : (k : Int) < (N : Int) := by omega
            have hNb : N ≤ 1025 := HFL.out
            go_wp2_with fail
            clear s2 y
            go_loopw [8, 44] (fun s8 s44 wq => RelE U wq M (wantL (fsL ins) (postsAt ins j) k) j (selX 5 ins) d s8 s44) (fun _ s44 _ => M - (RowKit.intOf s44).toNat)
            case atStart => exact ⟨0, Nat.zero_le _, rfl, by simp [hitX], HW.out⟩
            case round =>
              clear HW HSW
              obtain ⟨q, hq, rfl, hh, hW⟩ := hrel
              have HW := hid hW
              have HH := hid hh
              clear hW hh
              have HWL := hid (show (wantL (fsL ins) (postsAt ins j) k).length ≤ 9000 from by have := wantL_len (fsL ins) (postsAt ins j) k; omega)
              have hMb : M ≤ 256 := HML.out
              by_cases hqm : q < M
              · obtain ⟨x, hx⟩ : ∃ x, (selX 5 ins)[q]? = some x := ⟨_, List.getElem?_eq_getElem (by rw [selX_len, HMN.out]; exact hqm)⟩
                have hxr : (rowL 5 ins)[q]? = some (tieOf x) := by rw [rowL_eq, List.getElem?_map, hx]; rfl
                obtain ⟨gt, rfl, hTA⟩ := (HS.out.later HW.out.low).tp q _ hxr
                obtain ⟨y0, y1, y2, y3, y4, y5, y6⟩ := hTA
                obtain ⟨hT0, hT1⟩ := rowL_T 5 ins HOK.out _ (List.mem_of_getElem? hxr)
                have HXJ := hid hx
                clear hx hxr
                have hqi : (q : Int) < (M : Int) := by omega
                obtain ⟨o, ho4, hxo⟩ : ∃ o, o < 4 ∧ x.o % 4 = o := ⟨x.o % 4, by omega, rfl⟩
                have HXO := hid hxo
                simp only [tieOf] at y0 y1 y2 y3 y4 y5 y6 hT0 hT1
                rw [hxo] at y2
                clear hxo
                obtain ⟨tF, htF⟩ : ∃ tF, x.F = tF := ⟨_, rfl⟩
                obtain ⟨tT, htT⟩ : ∃ tT, x.T = tT := ⟨_, rfl⟩
                rw [htF] at y4
                rw [htT] at y5 hT0 hT1
                have HTF := hid htF
                have HTT := hid htT
                clear htF htT
                generalize nm (x.s % 4) = ts at *
                generalize rl (x.r % 11) = tr at *
                by_cases hoj : o = j
                · subst hoj
                  by_cases hF : fromB tF d = true
                  · go_wp2_with (first
                      | (go_at_call 8; refine (from_any _ _ _ _ tF tT 0 d _).mono ?_; rintro e w3 ⟨rfl, hb3⟩; have HQ3 := hid (HW.out.later (((Below.refl _ _).alloc (Nat.le_refl _) _).trans (hb3.mono (by simp)))); clear hb3)
                      | (at_builtin; refine wpList_addInt rfl (.tmp 62) (.tmp 64) rfl U w3 _ _ HQ3.out rfl w3.heap.size rfl rfl (k : Int) HWL.out _ rfl ?_; intro v4 w4 hW4; have HW4 := hid hW4; clear hW4))
                    go_roundw
                    case rel => exact ⟨k + 1, hkn, by go_num, by rw [wantL_succ, HGD.out, if_pos (by rw [hitX_eq]; exact hitX_of _ _ q x d HXJ.out HXO.out (by rw [HTF.out]; simp [hF]))]; exact HW4.out⟩
                    case measure => simp [RowKit.intOf]; omega
                  · have hF2 : fromB tF d = false := by simpa using hF
                    clear hF
                    by_cases hT : toB tT d = true
                    · go_wp2_with (first
                        | (go_at_call 8; refine (from_any _ _ _ _ tF tT 0 d _).mono ?_; rintro e w3 ⟨rfl, hb3⟩; have HQ3 := hid (HW.out.later (((Below.refl _ _).alloc (Nat.le_refl _) _).trans (hb3.mono (by simp)))); obtain ⟨yy0, yy1, yy2, yy3, yy4, yy5, yy6⟩ := tie_copy hb3; simp only [Nat.zero_add] at yy0 yy1 yy2 yy3 yy4 yy5 yy6; clear hb3)
                        | (go_at_call 9; refine (to_any _ _ _ _ tF tT 0 d _ hT0 hT1).mono ?_; rintro e w4 ⟨rfl, hb4⟩; have HQ4 := hid (HQ3.out.later hb4); clear hb4)
                        | (at_builtin; refine wpList_addInt rfl (.tmp 62) (.tmp 64) rfl U w4 _ _ HQ4.out rfl w4.heap.size rfl rfl (k : Int) HWL.out _ rfl ?_; intro v5 w5 hW5; have HW5 := hid hW5; clear hW5))
                      go_roundw
                      case rel => exact ⟨k + 1, hkn, by go_num, by rw [wantL_succ, HGD.out, if_pos (by rw [hitX_eq]; exact hitX_of _ _ q x d HXJ.out HXO.out (by rw [HTT.out]; simp [hT]))]; exact HW5.out⟩
                      case measure => simp [RowKit.intOf]; omega
                    · have hT2 : toB tT d = false := by simpa using hT
                      clear hT
                      go_wp2_with (first
                        | (go_at_call 8; refine (from_any _ _ _ _ tF tT 0 d _).mono ?_; rintro e w3 ⟨rfl, hb3⟩; have HQ3 := hid (HW.out.later (((Below.refl _ _).alloc (Nat.le_refl _) _).trans (hb3.mono (by simp)))); obtain ⟨yy0, yy1, yy2, yy3, yy4, yy5, yy6⟩ := tie_copy hb3; simp only [Nat.zero_add] at yy0 yy1 yy2 yy3 yy4 yy5 yy6; clear hb3)
                        | (go_at_call 9; refine (to_any _ _ _ _ tF tT 0 d _ hT0 hT1).mono ?_; rintro e w4 ⟨rfl, hb4⟩; have HQ4 := hid (HQ3.out.later hb4); clear hb4))
                      go_roundw
                      case rel => exact ⟨q + 1, hqm, by go_num, by rw [hitX_take _ _ q x d HXJ.out, HH.out, HTF.out, HTT.out]; simp [hF2, hT2], HQ4.out⟩
                      case measure => simp [RowKit.intOf]; omega
                · obtain ⟨n1, n2, n3⟩ := nm_ne ho4 hj4 hoj
                  have HOJ := hid hoj
                  clear hoj
                  go_wp2_with fail
                  go_roundw
                  case rel => exact ⟨q + 1, hqm, by go_num, by rw [hitX_take _ _ q x d HXJ.out, HH.out, HXO.out]; simp [HOJ.out], HW.out.later ((Below.refl _ _).alloc (Nat.le_refl _) _)⟩
                  case measure => simp [RowKit.intOf]; omega
              · have hqm2 : q = M := by omega
                subst hqm2
                clear hqm hq
                have hhm : hitX j (selX 5 ins) d = false := by
                  have h := HH.out
                  rw [List.take_of_length_le (by rw [selX_len, HMN.out]; exact Nat.le_refl _)] at h
                  exact h
                have HHM := hid hhm
                clear hhm
                go_wp2_with fail
                go_roundw
                case rel => exact ⟨k + 1, hkn, by go_num, by rw [wantL_succ, HGD.out, hitX_eq, if_neg (by simp [HHM.out]), List.append_nil]; exact HW.out⟩
                case measure => simp [RowKit.intOf]; omega
          · have hkn2 : k = N := by omega
            subst hkn2
            clear hkn hk
            rw [← HATJ.out] at HW
            have HSW := hid (HS.out.later HW.out.low)
            have k1 := HSW.out.k1
            have HMW := hid (show MapIs wr bm f from HMP.out.kept (HW.out.low.block _ HMP.out.lt))
            obtain ⟨a8, z8, e8⟩ := slice_of_owns HW.out.own
            have HOW := hid HW.out.own
            rw [e8] at HOW
            subst e8
            have HLW := hid (show (ddSort (A j)).length < 4611686018427387904 from by rw [HATJ.out]; have h1 := wantL_len (fsL ins) (postsAt ins j) k; have h2 := HFL.out; omega)
            have HLO := hid HW.out.low
            clear HW
            rcases HF.out j hj4 with ⟨hAe, hfe⟩ | ⟨hAe, v, b8, hfe, hov⟩
            · have h0 : (ddSort (A j)).length = 0 := by rw [hAe, (ddSort_nil_iff []).2 rfl]; rfl
              rw [h0]
              clear HOW HLW h0
              have HAE := hid hAe
              have HFE := hid hfe
              clear hAe hfe
              go_wp2_with (first
                | (at_lookup; refine wpList_mapLookOk _ rfl _ _ 30 rfl 29 Ybad.underlying30 (.slice none 0 0) (zero29 _) bm f HMW.out j hj4 rfl rfl (.slice none 0 0) (by rw [HFE.out]; rfl) false (by rw [HFE.out]; rfl) ?_)
                | (go_at_call 10; refine (equal_same none a8 0 z8 [] wr (by decide) (fun j hj => absurd hj (Nat.not_lt_zero _)) (fun j hj => absurd hj (Nat.not_lt_zero _))).mono ?_; rintro e w9 ⟨rfl, q, rfl⟩))
              go_roundw
              case rel => exact ⟨j + 1, hj4, by go_num, by rw [cA, if_pos HAE.out, Nat.add_zero, HCC.out], below_drewN HLO.out q⟩
              case measure => simp [RowKit.intOf]; omega
            · obtain ⟨av, zv, rfl⟩ := slice_of_owns hov
              have HOV := hid (own_later hov HLO.out.block)
              have hpos : 0 < (ddSort (A j)).length := List.length_pos_iff.2 (fun h => hAe ((ddSort_nil_iff _).1 h))
              have HAE := hid hAe
              have HFE := hid hfe
              have HEQ := hid (equal_same av a8 zv z8 (ddSort (A j)) wr HLW.out (cells_of_owns HOV.out) (cells_of_owns HOW.out))
              clear hAe hfe hov HOW HOV
              generalize (ddSort (A j)).length = l8 at *
              go_wp2_with (first
                | (at_lookup; refine wpList_mapLookOk _ rfl _ _ 30 rfl 29 Ybad.underlying30 (.slice none 0 0) (zero29 _) bm f HMW.out j hj4 rfl rfl (.slice av l8 zv) (by rw [HFE.out]; rfl) true (by rw [HFE.out]; rfl) ?_)
                | (go_at_call 10; refine HEQ.out.mono ?_; rintro e w9 ⟨rfl, q, rfl⟩))
              go_roundw
              case rel => exact ⟨j + 1, hj4, by go_num, by rw [cA, if_neg HAE.out, HCC.out]; go_num, below_drewN HLO.out q⟩
              case measure => simp [RowKit.intOf]; omega
      · have hj4' : j = 4 := by omega
        subst hj4'
        have HSW := hid (HS.out.later HLOW.out)
        have k1 := HSW.out.k1
        have HMW := hid (show MapIs wr bm f from HMP.out.kept (HLOW.out.block _ HMP.out.lt))
        rw [HCA.out]
        clear hj4 hj hcj
        go_wp2_with (first
          | (at_len; refine wpList_mapLen _ rfl _ 30 rfl 29 Ybad.underlying30 bm f HMW.out rfl ?_))
        go_ret
        exact ⟨by simp, HBW.out.trans (HLOW.out.mono HBW.out.size)⟩
  · have hgt : (256 : Int) < (ins.length : Int) := by omega
    generalize ins.length = n at *
    go_enter Ybad.func4, Ybad.ntmps4
    go_wp2
    go_ret
    exact ⟨rfl, Below.refl _ _⟩
end Go.Proofs.YbulkagqaDoor
