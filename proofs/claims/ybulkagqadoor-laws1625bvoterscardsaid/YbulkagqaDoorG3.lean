import Derived.Test.YbulkagqaDoorG2
namespace Go.Proofs.YbulkagqaDoor
open Go.RowKit Go.Lib
set_option linter.unusedVariables false
set_option linter.unusedSimpArgs false

theorem hitB_take (T : List TieD) (j : Nat) (t : TieD) (d : Int) (h : T[j]? = some t) : hitB (T.take (j + 1)) d = (hitB (T.take j) d || (fromB t.F d || toB t.T d)) := by
  rw [take_snoc T j t h]; simp [hitB]
theorem hitB_of (T : List TieD) (j : Nat) (t : TieD) (d : Int) (h : T[j]? = some t) (hb : (fromB t.F d || toB t.T d) = true) : hitB T d = true := by
  simp only [hitB, List.any_eq_true]
  exact ⟨t, List.mem_of_getElem? h, hb⟩

theorem tie_copy {w w3 : World} {ts tr tb : ByteArray} {tF tT tL : Int} (hb : Below (w.alloc (.cells #[.string ts, .string tr, .string tb, .pointer none, .int .i32 tF, .int .i32 tT, .int .i64 tL] 53)).heap.size (w.alloc (.cells #[.string ts, .string tr, .string tb, .pointer none, .int .i32 tF, .int .i32 tT, .int .i64 tL] 53)) w3) : TieAt w3 w.heap.size 0 { subj := ts, rel := tr, obj := tb, F := tF, T := tT, L := tL } := by
  have h : w3.heap[w.heap.size]? = some (.cells #[.string ts, .string tr, .string tb, .pointer none, .int .i32 tF, .int .i32 tT, .int .i64 tL] 53) := (hb.block _ (by simp)).trans (heap_alloc_new _ _)
  exact ⟨by simp [World.cell?, h], by simp [World.cell?, h], by simp [World.cell?, h], by simp [World.cell?, h], by simp [World.cell?, h], by simp [World.cell?, h], by simp [World.cell?, h]⟩

theorem cells_of_owns {w : World} {base : Nat} {a : Option Addr} {c : Nat} {L : List Int} (h : w.ownsRow base 3 1 (.slice a L.length c) L.length (L.map (Value.int .i64))) : ∀ j, j < L.length → ∃ b o, a = some ⟨b, o, none⟩ ∧ w.cell? ⟨b, o + j, none⟩ = some (.int .i64 (L.getD j 0)) := by
  intro j hj
  rcases h.2 with ⟨_, h0⟩ | ⟨g, cap, cur, hv, _⟩
  · omega
  · simp only [Value.slice.injEq] at hv
    obtain ⟨rfl, _, rfl⟩ := hv
    refine ⟨g, 0, rfl, ?_⟩
    rw [Nat.zero_add, World.ownsRow.cellAt h j (by omega)]
    simp [hj]

abbrev RelA (U wr : World) (N : Nat) (fs : List Int) (T : List TieD) (s5 s24 : Value) : Prop := ∃ k, k ≤ N ∧ s24 = .int .i64 (k : Nat) ∧ RowW U wr s5 (wantL fs T k)
abbrev RelB (U wr : World) (M : Nat) (L : List Int) (T : List TieD) (d : Int) (s5 s32 : Value) : Prop := ∃ j, j ≤ M ∧ s32 = .int .i64 (j : Nat) ∧ hitB (T.take j) d = false ∧ RowW U wr s5 L

set_option maxHeartbeats 4000000 in
set_option maxRecDepth 100000 in
theorem lawAll_any (hNBC : NBC) (a : Option Addr) (cap : Nat) (ins : List InD) (w : World) (hI : InsAt w a ins) (hR : RulesAt w) :
    Calls Ybad.prog 3 #[.slice a ins.length cap] w fun e w' => e = .returned (.bool true) ∧ Below w.heap.size w w' := by
  have HNB := hid hNBC
  have HI := hid hI
  have HR := hid hR
  clear hNBC hI hR
  by_cases hn : ins.length ≤ 256
  · have HN := hid hn
    have HBU := hid (build_any a cap ins w hn HI.out)
    have HOK := hid (ins_ok HI.out)
    have HA := hid (all_law HOK.out)
    have hni : ((ins.length : Nat) : Int) ≤ 256 := by omega
    clear hn
    generalize hN : ins.length = n at *
    have HNE := hid hN
    clear hN
    go_enter Ybad.func3, Ybad.ntmps3
    go_wp2_with (first
      | (go_at_call 6; refine HBU.out.mono ?_; rintro e u1 ⟨bc, vT, vP, rfl, hC, hT, hP, hB1⟩; have HT := hid hT; have HP := hid hP; obtain ⟨ta, tz, rfl, hq1⟩ := hT; obtain ⟨pa, pz, rfl, hq2⟩ := hP; have HC := hid hC; have HB1 := hid hB1; clear hC hB1 hq1 hq2)
      | (go_at_call 7; refine (HNB.out bc ins _ (by rw [HNE.out]; exact HN.out) HOK.out (HC.out.later (fun k hk => Below.heap_alloc _ _ _ hk) (by simp)) (HR.out.later (fun k hk => (Below.heap_alloc _ _ _ (Nat.lt_of_lt_of_le hk HB1.out.size)).trans (HB1.out.block k hk)) (by have := HB1.out.size; simp; omega))).mono ?_; rintro e u2 ⟨bm, v0, v5, rfl, hO, hB2⟩; have HO := hid hO; obtain ⟨⟨b0, h0⟩, hq3, ⟨b5, ps, hq4, hq5, h5⟩⟩ := hO; obtain ⟨a0, z0, rfl⟩ := slice_of_owns h0; obtain ⟨a5, z5, rfl⟩ := slice_of_owns h5; clear h0 hq3 hq4 hq5 h5; obtain ⟨g, c, hf⟩ := HC.out.firsts; have HS := hid (st_made HC.out hf HT.out HP.out rfl rfl hB2 HO.out); have HB2 := hid hB2; have q0 := HS.out.s0; have q6 := HS.out.f6; clear hf hB2))
    have HBW := hid (show Below w.heap.size w (u2.alloc (.cells #[.slice a0 (ddSort ((dsL ins).map fun d => (ixN (fsL ins) d : Int))).length z0, .map (some bm), .slice a5 (votL (fsL ins) (vtL (selX 2 ins)) (evs (selX 1 ins))).length z5] 33)) from
      (((HB1.out.alloc (by have := HB1.out.size; omega) _).trans (HB2.out.mono (by have := HB1.out.size; simp; omega))).alloc (by have h1 := HB1.out.size; have h2 := HB2.out.size; simp at h2; omega) _))
    clear q0 q6 HB1 HB2 HC HT HP HO HBU
    generalize (u2.alloc (.cells #[.slice a0 (ddSort ((dsL ins).map fun d => (ixN (fsL ins) d : Int))).length z0, .map (some bm), .slice a5 (votL (fsL ins) (vtL (selX 2 ins)) (evs (selX 1 ins))).length z5] 33)) = U at *
    generalize u1.heap.size = bs at *
    generalize u2.heap.size = bk at *
    have HFL := hid (show (fsL ins).length ≤ 1025 from (lens (by rw [HNE.out]; exact HN.out)).1)
    have HML := hid (show (rowL 4 ins).length ≤ 256 from by have h1 := rowL_len 4 ins; have h2 := HNE.out; have h3 := HN.out; omega)
    generalize hFN : (fsL ins).length = N at *
    have HFN := hid hFN
    clear hFN
    generalize hMN : (rowL 4 ins).length = M at *
    have HMN := hid hMN
    clear hMN
    go_loopw [5, 24] (fun s5 s24 wr => RelA U wr N (fsL ins) (rowL 4 ins) s5 s24) (fun _ s24 _ => N - (RowKit.intOf s24).toNat)
    case atStart => exact ⟨0, Nat.zero_le _, rfl, RowW.start U⟩
    case round =>
      obtain ⟨k, hk, rfl, hW⟩ := hrel
      have HW := hid hW
      clear hW
      by_cases hkn : k < N
      · have hkl : k < (fsL ins).length := by rw [HFN.out]; exact hkn
        obtain ⟨d, hd⟩ : ∃ d, (fsL ins)[k]? = some d := ⟨_, List.getElem?_eq_getElem hkl⟩
        have hgd : (fsL ins).getD k 0 = d := by rw [List.getD_eq_getElem?_getD, hd]; rfl
        have HSW := hid (HS.out.later HW.out.low)
        have y := HSW.out.fd k hkl
        rw [hgd] at y
        have HGD := hid hgd
        clear hgd hd hkl
        have s1 := HSW.out.s1
        rw [HMN.out] at s1
        have hki : (k : Int) < (N : Int) := by omega
        have hNb : N ≤ 1025 := HFL.out
        go_wp2_with fail
        clear s1 y
        go_loopw [5, 32] (fun s5 s32 wq => RelB U wq M (wantL (fsL ins) (rowL 4 ins) k) (rowL 4 ins) d s5 s32) (fun _ s32 _ => M - (RowKit.intOf s32).toNat)
        case atStart => exact ⟨0, Nat.zero_le _, rfl, by simp [hitB], HW.out⟩
        case round =>
          clear HW HSW
          obtain ⟨j, hj, rfl, hh, hW⟩ := hrel
          have HW := hid hW
          have HH := hid hh
          clear hW hh
          have HWL := hid (show (wantL (fsL ins) (rowL 4 ins) k).length ≤ 9000 from by have := wantL_len (fsL ins) (rowL 4 ins) k; omega)
          have hMb : M ≤ 256 := HML.out
          by_cases hjm : j < M
          · obtain ⟨t, ht⟩ : ∃ t, (rowL 4 ins)[j]? = some t := ⟨_, List.getElem?_eq_getElem (by rw [HMN.out]; exact hjm)⟩
            obtain ⟨gt, rfl, hTA⟩ := (HS.out.later HW.out.low).tt j t ht
            obtain ⟨y0, y1, y2, y3, y4, y5, y6⟩ := hTA
            obtain ⟨hT0, hT1⟩ := rowL_T 4 ins HOK.out t (List.mem_of_getElem? ht)
            have HTJ := hid ht
            clear ht
            have hji : (j : Int) < (M : Int) := by omega
            obtain ⟨ts, tr, tb, tF, tT, tL⟩ := t
            simp only at y0 y1 y2 y3 y4 y5 y6 hT0 hT1
            by_cases hF : fromB tF d = true
            · go_wp2_with (first
                | (go_at_call 8; refine (from_any _ _ _ _ tF tT tL d _).mono ?_; rintro e w3 ⟨rfl, hb3⟩; have HQ3 := hid (HW.out.later (((Below.refl _ _).alloc (Nat.le_refl _) _).trans (hb3.mono (by simp)))); clear hb3)
                | (at_builtin; refine wpList_addInt rfl (.tmp 44) (.tmp 46) rfl U w3 _ _ HQ3.out rfl w3.heap.size rfl rfl (k : Int) HWL.out _ rfl ?_; intro v4 w4 hW4; have HW4 := hid hW4; clear hW4))
              go_roundw
              case rel => exact ⟨k + 1, hkn, by go_num, by rw [wantL_succ, HGD.out, if_pos (hitB_of _ j _ d HTJ.out (by simp [hF]))]; exact HW4.out⟩
              case measure => simp [RowKit.intOf]; omega
            · have hF2 : fromB tF d = false := by simpa using hF
              clear hF
              by_cases hT : toB tT d = true
              · go_wp2_with (first
                  | (go_at_call 8; refine (from_any _ _ _ _ tF tT tL d _).mono ?_; rintro e w3 ⟨rfl, hb3⟩; have HQ3 := hid (HW.out.later (((Below.refl _ _).alloc (Nat.le_refl _) _).trans (hb3.mono (by simp)))); obtain ⟨yy0, yy1, yy2, yy3, yy4, yy5, yy6⟩ := tie_copy hb3; simp only [Nat.zero_add] at yy0 yy1 yy2 yy3 yy4 yy5 yy6; clear hb3)
                  | (go_at_call 9; refine (to_any _ _ _ _ tF tT tL d _ hT0 hT1).mono ?_; rintro e w4 ⟨rfl, hb4⟩; have HQ4 := hid (HQ3.out.later hb4); clear hb4)
                  | (at_builtin; refine wpList_addInt rfl (.tmp 44) (.tmp 46) rfl U w4 _ _ HQ4.out rfl w4.heap.size rfl rfl (k : Int) HWL.out _ rfl ?_; intro v5 w5 hW5; have HW5 := hid hW5; clear hW5))
                go_roundw
                case rel => exact ⟨k + 1, hkn, by go_num, by rw [wantL_succ, HGD.out, if_pos (hitB_of _ j _ d HTJ.out (by simp [hT]))]; exact HW5.out⟩
                case measure => simp [RowKit.intOf]; omega
              · have hT2 : toB tT d = false := by simpa using hT
                clear hT
                go_wp2_with (first
                  | (go_at_call 8; refine (from_any _ _ _ _ tF tT tL d _).mono ?_; rintro e w3 ⟨rfl, hb3⟩; have HQ3 := hid (HW.out.later (((Below.refl _ _).alloc (Nat.le_refl _) _).trans (hb3.mono (by simp)))); obtain ⟨yy0, yy1, yy2, yy3, yy4, yy5, yy6⟩ := tie_copy hb3; simp only [Nat.zero_add] at yy0 yy1 yy2 yy3 yy4 yy5 yy6; clear hb3)
                  | (go_at_call 9; refine (to_any _ _ _ _ tF tT tL d _ hT0 hT1).mono ?_; rintro e w4 ⟨rfl, hb4⟩; have HQ4 := hid (HQ3.out.later hb4); clear hb4))
                go_roundw
                case rel => exact ⟨j + 1, hjm, by go_num, by rw [hitB_take _ j _ d HTJ.out, HH.out]; simp [hF2, hT2], HQ4.out⟩
                case measure => simp [RowKit.intOf]; omega
          · have hjm2 : j = M := by omega
            subst hjm2
            clear hjm hj
            have hhm : hitB (rowL 4 ins) d = false := by
              have h := HH.out
              rw [List.take_of_length_le (by rw [HMN.out]; exact Nat.le_refl _)] at h
              exact h
            have HHM := hid hhm
            clear hhm
            go_wp2_with fail
            go_roundw
            case rel => exact ⟨k + 1, hkn, by go_num, by rw [wantL_succ, HGD.out, if_neg (by simp [HHM.out]), List.append_nil]; exact HW.out⟩
            case measure => simp [RowKit.intOf]; omega
      · have hkn2 : k = N := by omega
        subst hkn2
        clear hkn hk
        have HSW := hid (HS.out.later HW.out.low)
        have k0 := HSW.out.k0
        have HAL := hid HA.out
        obtain ⟨b0, hall⟩ := HSW.out.out.all
        rw [HAL.out] at hall k0
        have HALL := hid hall
        obtain ⟨a5', z5', e5⟩ := slice_of_owns HW.out.own
        have HOW := hid HW.out.own
        rw [e5] at HOW
        subst e5
        have HLW := hid (show (wantL (fsL ins) (rowL 4 ins) k).length < 4611686018427387904 from by have h1 := wantL_len (fsL ins) (rowL 4 ins) k; have h2 := HFL.out; omega)
        clear hall
        go_wp2_with (go_at_call 10; refine (equal_same a0 a5' z0 z5' (wantL (fsL ins) (rowL 4 ins) k) wr HLW.out (cells_of_owns HALL.out) (cells_of_owns HOW.out)).mono ?_; rintro e w9 ⟨rfl, q, rfl⟩)
        go_ret
        exact ⟨rfl, below_drewN (HBW.out.trans (HW.out.low.mono HBW.out.size)) q⟩
  · have hgt : (256 : Int) < (ins.length : Int) := by omega
    generalize ins.length = n at *
    go_enter Ybad.func3, Ybad.ntmps3
    go_wp2
    go_ret
    exact ⟨rfl, Below.refl _ _⟩
end Go.Proofs.YbulkagqaDoor
