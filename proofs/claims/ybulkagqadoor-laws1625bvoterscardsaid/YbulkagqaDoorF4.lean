import Derived.Test.YbulkagqaDoorF3
import Derived.Test.YbulkagqaDoorE5
namespace Go.Proofs.YbulkagqaDoor
open Go.RowKit Go.Lib
set_option linter.unusedVariables false
set_option linter.unusedSimpArgs false

/-! ### The start -/
def nilRow : Row := ⟨.slice none 0 0, 0, []⟩
theorem nb_start (w w1 : World) (bc bb br bm bk : Nat) (hbk : w.heap.size + 1 + 1 + 1 = bk) (hbm : w.heap.size + 1 + 1 = bm) (hbr : w.heap.size + 1 = br) (hbb : w.heap.size = bb)
    (hw1 : ((((w.alloc (.cells #[.pointer (some ⟨bc, 0, none⟩)] 23)).alloc (.cells #[.slice none 0 0, .map none, .slice none 0 0] 33)).alloc (.map #[] 0)).alloc (.cells #[.slice none 0 0, .map (some (w.heap.size + 1 + 1)), .slice none 0 0] 33)) = w1) :
    NB w1 w1 bk bm (fun _ => nilRow) (.slice none 0 0) (.slice none 0 0) (fun _ => none) ∧ w1.cell? ⟨bb, 0, none⟩ = some (.pointer (some ⟨bc, 0, none⟩)) ∧ w1.heap[br]? = some (.cells #[.slice none 0 0, .map none, .slice none 0 0] 33) ∧ Below w.heap.size w w1 ∧ w1.heap.size = bk + 1 := by
  subst hbk hbm hbr hbb hw1
  have s2 : ((w.alloc (.cells #[.pointer (some ⟨bc, 0, none⟩)] 23)).alloc (.cells #[.slice none 0 0, .map none, .slice none 0 0] 33)).heap.size = w.heap.size + 1 + 1 := by simp
  have s3 : (((w.alloc (.cells #[.pointer (some ⟨bc, 0, none⟩)] 23)).alloc (.cells #[.slice none 0 0, .map none, .slice none 0 0] 33)).alloc (.map #[] 0)).heap.size = w.heap.size + 1 + 1 + 1 := by simp
  refine ⟨⟨⟨fun j hj => World.ownsRow_nil _ _ _ _, fun i j _ _ _ k hk => (by cases hk)⟩, ?_, ?_, ?_, fun i => ?_, ?_, Below.refl _ _, by omega, by simp⟩, ?_, ?_, ?_, by simp⟩
  · rw [World.cell?_alloc_at _ _ _ _ s3.symm]; rfl
  · rw [World.cell?_alloc_at _ _ _ _ s3.symm]; rfl
  · rw [World.cell?_alloc_at _ _ _ _ s3.symm]; rfl
  · exact World.frozen?_alloc_at _ _ _ _ s3.symm
  · have h := MapIs.made ((w.alloc (.cells #[.pointer (some ⟨bc, 0, none⟩)] 23)).alloc (.cells #[.slice none 0 0, .map none, .slice none 0 0] 33))
    rw [s2] at h
    exact h.kept (Below.heap_alloc _ _ _ (by rw [s3]; omega))
  · rw [World.cell?_alloc_past _ _ _ (by rw [s3]; omega), World.cell?_alloc_past _ _ _ (by rw [s2]; omega), World.cell?_alloc_past _ _ _ (by simp), World.cell?_alloc_at _ _ _ _ rfl]; rfl
  · rw [Below.heap_alloc _ _ _ (by rw [s3]; omega), Below.heap_alloc _ _ _ (by rw [s2]; omega)]
    have e : (w.alloc (.cells #[.pointer (some ⟨bc, 0, none⟩)] 23)).heap.size = w.heap.size + 1 := by simp
    rw [← e]; exact heap_alloc_new _ _
  · exact (((((Below.refl _ _).alloc (Nat.le_refl _) _).alloc (by simp) _).alloc (by simp; omega) _).alloc (by simp; omega) _)

theorem CalAt.later {w W : World} {bc : Nat} {ins : List InD} (h : CalAt w bc ins) (hb : ∀ k, k < w.heap.size → W.heap[k]? = w.heap[k]?) (hs : w.heap.size ≤ W.heap.size) : CalAt W bc ins := by
  have ec : ∀ a v, w.cell? a = some v → W.cell? a = some v := fun a v h => (World.cell?_of_block (hb _ (World.block_lt_of_cell? w a h))).trans h
  obtain ⟨v1, a1, b1⟩ := h.other
  obtain ⟨v2, a2, b2⟩ := h.seats
  obtain ⟨g, c, a3, b3, l3⟩ := h.firsts
  obtain ⟨b4, g4, c4, x4, y4, d4, z4, l4⟩ := h.owns
  obtain ⟨b5, g5, c5, x5, y5, d5, z5, l5⟩ := h.fams
  exact ⟨⟨v1, ec _ _ a1, b1.later hb⟩, ⟨v2, ec _ _ a2, b2.later hb⟩, ⟨g, c, ec _ _ a3, b3.later (hb g l3), by omega⟩, ⟨b4, g4, c4, ec _ _ x4, ec _ _ y4, d4.later (hb g4 l4), z4, by omega⟩, ⟨b5, g5, c5, ec _ _ x5, ec _ _ y5, d5.later (hb g5 l5), z5, by omega⟩⟩

/-- A slice of dates in a block of its own, from lo on. -/
def RowI (w : World) (lo : Nat) (a : Option Addr) (L : List Int) : Prop := ∀ j, j < L.length → ∃ g cur, a = some ⟨g, 0, none⟩ ∧ lo ≤ g ∧ w.heap[g]? = some (.cells cur 49 (0, 0)) ∧ w.cell? ⟨g, j, none⟩ = some (.int .i32 (L.getD j 0))

theorem RowI.beside {w w' : World} {lo bk bm : Nat} {a : Option Addr} {L : List Int} (h : RowI w lo a L) (hb : Beside w w' bk bm) (hk : bk < lo) (hm : bm < bk) : RowI w' lo a L := by
  intro j hj
  obtain ⟨g, cur, rfl, h1, h2, h3⟩ := h j hj
  have h4 := hb.keep g _ h2 ⟨by decide, by decide⟩ (by omega) (by omega)
  exact ⟨g, cur, rfl, h1, h4, (World.cell?_of_block (a := ⟨g, j, none⟩) (h4.trans h2.symm)).trans h3⟩
theorem RowI.mono {w : World} {lo lo' : Nat} {a : Option Addr} {L : List Int} (h : RowI w lo a L) (hl : lo' ≤ lo) : RowI w lo' a L := fun j hj => by
  obtain ⟨g, cur, h1, h2, h3⟩ := h j hj
  exact ⟨g, cur, h1, by omega, h3⟩
theorem RowI.of_block {w w' : World} {lo : Nat} {a : Option Addr} {L : List Int} (h : RowI w lo a L) (hb : ∀ (g : Nat) (o : Obj), w.heap[g]? = some o → NoRow o → w'.heap[g]? = some o) : RowI w' lo a L := by
  intro j hj
  obtain ⟨g, cur, rfl, h1, h2, h3⟩ := h j hj
  have h4 := hb g _ h2 ⟨by decide, by decide⟩
  exact ⟨g, cur, rfl, h1, h4, (World.cell?_of_block (a := ⟨g, j, none⟩) (h4.trans h2.symm)).trans h3⟩

theorem row_of_owns {w : World} {base : Nat} {v : Value} {L : List Int} (h : w.ownsRow base 49 1 v L.length (L.map (Value.int .i32))) : ∃ a cap, v = .slice a L.length cap ∧ RowI w base a L := by
  rcases h.2 with ⟨rfl, h0⟩ | ⟨g, cap, cur, rfl, hg, hb, h1, h2, h3, h4⟩
  · exact ⟨none, 0, by rw [h0], fun j hj => by omega⟩
  · refine ⟨_, cap, rfl, fun j hj => ⟨g, cur, rfl, hg, hb, ?_⟩⟩
    rw [World.ownsRow.cellAt h j (by omega)]
    simp [hj]

theorem concat2 (w W : World) (g1 c1 g2 c2 : Nat) (A1 A2 : Option Addr) (hA1 : (if c1 = 1 then some (⟨g1, 0, none⟩ : Addr) else some ⟨g1, 1, none⟩) = A1) (hA2 : (if c2 = 1 then some (⟨g2, 0, none⟩ : Addr) else some ⟨g2, 1, none⟩) = A2) (F1 F2 : List Int) (n1 n2 : Nat) (hn1 : n1 = F1.length) (hn2 : n2 = F2.length) (hc1 : F1.length ≤ c1) (hc2 : F2.length ≤ c2) (hl : F1.length + F2.length ≤ 9000)
    (hd1 : DatesAt w g1 F1) (hd2 : DatesAt w g2 F2) (p1 : 0 < F1.length) (p2 : 0 < F2.length) (L : List Int) (hL : L = F1.drop 1 ++ F2.drop 1)
    (hW : W = (w.alloc (.cells #[.slice A1 (n1 - 1) (c1 - 1), .slice A2 (n2 - 1) (c2 - 1)] 39)).drew) :
    Calls Ybad.prog 17 #[.slice (some ⟨w.heap.size, 0, none⟩) 2 2] W fun e w' => ∃ a cap, e = .returned (.slice a L.length cap) ∧ RowI w' (w.heap.size + 1) a L ∧ Below w.heap.size w w' := by
  subst hn1 hn2 hA1 hA2 hL
  have l1 : g1 < w.heap.size := World.block_lt_of_cell? w ⟨g1, 0, none⟩ (hd1 0 p1)
  have l2 : g2 < w.heap.size := World.block_lt_of_cell? w ⟨g2, 0, none⟩ (hd2 0 p2)
  have add1 : ∀ (g j : Nat), (⟨g, 1, none⟩ : Addr).add j = ⟨g, 1 + j, none⟩ := fun g j => by unfold Addr.add; split <;> simp_all
  have key : ∀ (g c : Nat) (F : List Int), DatesAt w g F → F.length ≤ c → g < w.heap.size → 0 < F.length → ∃ o, (if c = 1 then some (⟨g, 0, none⟩ : Addr) else some ⟨g, 1, none⟩) = some ⟨g, o, none⟩ ∧ F.length - 1 = (F.drop 1).length ∧ ∀ j u, ((F.drop 1).map (Value.int .i32))[j]? = some u → W.cell? ((⟨g, o, none⟩ : Addr).add j) = some u := by
    intro g c F hd hc hg hp
    by_cases h : c = 1
    · refine ⟨0, by simp [h], by simp, fun j u hu => ?_⟩
      have hlt := (List.getElem?_eq_some_iff.1 hu).1
      simp at hlt
      omega
    · refine ⟨1, by simp [h], by simp, fun j u hu => ?_⟩
      have hlt := (List.getElem?_eq_some_iff.1 hu).1
      simp at hlt
      rw [add1]
      have h1 := hd (1 + j) (by omega)
      rw [hW]
      show (w.alloc _).cell? _ = _
      rw [World.cell?_alloc_past _ _ _ hg, h1]
      simp only [List.getElem?_map, List.getElem?_drop] at hu
      rw [List.getElem?_eq_getElem (by omega)] at hu
      simp at hu
      rw [← hu, List.getD_eq_getElem?_getD, List.getElem?_eq_getElem (by omega)]
      rfl
  obtain ⟨o1, e1, m1, x1⟩ := key g1 c1 F1 hd1 hc1 l1 p1
  obtain ⟨o2, e2, m2, x2⟩ := key g2 c2 F2 hd2 hc2 l2 p2
  have hs : W.heap.size = w.heap.size + 1 := by rw [hW]; show (w.alloc _).heap.size = _; simp
  have h := concat_any w.heap.size g1 o1 (c1 - 1) g2 o2 (c2 - 1) (F1.drop 1) (F2.drop 1) W (by simp; omega) (by rw [hW, e1, m1]; show (w.alloc _).cell? _ = _; simp) (by rw [hW, e2, m2]; show (w.alloc _).cell? _ = _; simp) x1 x2 (by omega) (fun _ => by omega) (fun _ => by omega)
  refine Calls.mono h fun e w' ⟨v, he, hown, hb⟩ => ?_
  obtain ⟨a, cap, rfl, hr⟩ := row_of_owns hown
  rw [hs] at hr hb
  refine ⟨a, cap, he, hr, ?_⟩
  have hb0 : Below w.heap.size w W := by rw [hW]; exact ((Below.refl _ _).alloc (Nat.le_refl _) _).drew
  exact hb0.trans (hb.mono (by omega))

/-! ### The lists -/
structure NL (R : Nat → Row) (L0 : List Int) (A : Nat → List Int) (V : List (Nat × Nat)) (f : Nat → Option Value) : Prop where
  r0 : (R 0).n = L0.length ∧ (R 0).cs = L0.map (Value.int .i64)
  ra : ∀ j, j < 4 → (R (j + 1)).n = (A j).length ∧ (R (j + 1)).cs = (A j).map (Value.int .i64)
  r5 : (R 5).n = V.length ∧ (R 5).cs = V.flatMap encT
  fa : ∀ j, j < 4 → f j = if A j = [] then none else some (R (j + 1)).v
  fn : ∀ j, j < 4 → A j = [] → (R (j + 1)).v = .slice none 0 0

theorem NL.start : NL (fun _ => nilRow) [] (fun _ => []) [] (fun _ => none) :=
  ⟨⟨rfl, rfl⟩, fun _ _ => ⟨rfl, rfl⟩, ⟨rfl, rfl⟩, fun _ _ => rfl, fun _ _ _ => rfl⟩

theorem NL.all {R : Nat → Row} {L0 : List Int} {A : Nat → List Int} {V : List (Nat × Nat)} {f : Nat → Option Value} (h : NL R L0 A V f) (v : Value) (z : Int) : NL (upd R 0 ⟨v, (R 0).n + 1, (R 0).cs ++ [.int .i64 z]⟩) (L0 ++ [z]) A V f := by
  have o : ∀ j, j ≠ 0 → upd R 0 ⟨v, (R 0).n + 1, (R 0).cs ++ [.int .i64 z]⟩ j = R j := fun j hj => upd_other _ _ _ _ hj
  refine ⟨?_, fun j hj => ?_, ?_, fun j hj => ?_, fun j hj => ?_⟩
  · rw [upd_same]; simp [h.r0]
  · rw [o _ (by omega)]; exact h.ra j hj
  · rw [o _ (by omega)]; exact h.r5
  · rw [o _ (by omega)]; exact h.fa j hj
  · rw [o _ (by omega)]; exact h.fn j hj

theorem NL.set0 {R : Nat → Row} {L0 L1 : List Int} {A : Nat → List Int} {V : List (Nat × Nat)} {f : Nat → Option Value} (h : NL R L0 A V f) (v : Value) : NL (upd R 0 ⟨v, L1.length, L1.map (Value.int .i64)⟩) L1 A V f := by
  have o : ∀ j, j ≠ 0 → upd R 0 ⟨v, L1.length, L1.map (Value.int .i64)⟩ j = R j := fun j hj => upd_other _ _ _ _ hj
  refine ⟨?_, fun j hj => ?_, ?_, fun j hj => ?_, fun j hj => ?_⟩
  · rw [upd_same]; exact ⟨rfl, rfl⟩
  · rw [o _ (by omega)]; exact h.ra j hj
  · rw [o _ (by omega)]; exact h.r5
  · rw [o _ (by omega)]; exact h.fa j hj
  · rw [o _ (by omega)]; exact h.fn j hj

theorem NL.at' {R : Nat → Row} {L0 : List Int} {A : Nat → List Int} {V : List (Nat × Nat)} {f : Nat → Option Value} (h : NL R L0 A V f) (i : Nat) (hi : i < 4) (v : Value) (L1 : List Int) (hne : L1 ≠ []) (n : Nat) (cs : List Value) (hn : n = L1.length) (hc : cs = L1.map (Value.int .i64)) : NL (upd R (i + 1) ⟨v, n, cs⟩) L0 (upd A i L1) V (upd f i (some v)) := by
  subst hn hc
  have o : ∀ j, j ≠ i + 1 → upd R (i + 1) ⟨v, L1.length, L1.map (Value.int .i64)⟩ j = R j := fun j hj => upd_other _ _ _ _ hj
  refine ⟨?_, fun j hj => ?_, ?_, fun j hj => ?_, fun j hj => ?_⟩
  · rw [o _ (by omega)]; exact h.r0
  · by_cases e : j = i
    · subst e; rw [upd_same, upd_same]; exact ⟨rfl, rfl⟩
    · rw [o _ (by omega), upd_other _ _ _ _ e]; exact h.ra j hj
  · rw [o _ (by omega)]; exact h.r5
  · by_cases e : j = i
    · subst e; rw [upd_same, upd_same, upd_same, if_neg hne]
    · rw [o _ (by omega), upd_other _ _ _ _ e, upd_other _ _ _ _ e]; exact h.fa j hj
  · by_cases e : j = i
    · subst e; rw [upd_same, upd_same]; exact fun h => absurd h hne
    · rw [o _ (by omega), upd_other _ _ _ _ e]; exact h.fn j hj

theorem NL.vot {R : Nat → Row} {L0 : List Int} {A : Nat → List Int} {V : List (Nat × Nat)} {f : Nat → Option Value} (h : NL R L0 A V f) (v : Value) (p : Nat × Nat) : NL (upd R 5 ⟨v, (R 5).n + 1, (R 5).cs ++ encT p⟩) L0 A (V ++ [p]) f := by
  have o : ∀ j, j ≠ 5 → upd R 5 ⟨v, (R 5).n + 1, (R 5).cs ++ encT p⟩ j = R j := fun j hj => upd_other _ _ _ _ hj
  refine ⟨?_, fun j hj => ?_, ?_, fun j hj => ?_, fun j hj => ?_⟩
  · rw [o _ (by omega)]; exact h.r0
  · rw [o _ (by omega)]; exact h.ra j hj
  · rw [upd_same]; simp [h.r5]
  · rw [o _ (by omega)]; exact h.fa j hj
  · rw [o _ (by omega)]; exact h.fn j hj
theorem NL.get {R : Nat → Row} {L0 : List Int} {A : Nat → List Int} {V : List (Nat × Nat)} {f : Nat → Option Value} (h : NL R L0 A V f) (i : Nat) (hi : i < 4) : (f i).getD (.slice none 0 0) = (R (i + 1)).v := by
  rw [h.fa i hi]
  by_cases e : A i = []
  · rw [if_pos e, h.fn i hi e]; rfl
  · rw [if_neg e]; rfl

/-- Nothing that was there has turned. -/
theorem NB.later {wI w W : World} {bk bm : Nat} {R : Nat → Row} {v0 v5 : Value} {f : Nat → Option Value} (h : NB wI w bk bm R v0 v5 f) (hB : Below w.heap.size w W) : NB wI W bk bm R v0 v5 f := by
  have hb : ∀ k : Nat, k < w.heap.size → W.heap[k]? = w.heap[k]? := hB.block
  have ec : ∀ a : Addr, a.block < w.heap.size → W.cell? a = w.cell? a := fun a ha => World.cell?_of_block (hb _ ha)
  have hk := h.ltk
  have hm := h.lt
  exact ⟨h.six.kept (fun k _ hk => hb k hk), (ec _ hk).trans h.c0, (ec _ hk).trans h.c1, (ec _ hk).trans h.c2, fun i => (World.frozen?_of_block (hb _ hk)).trans (h.fz i), h.mp.kept (hb _ (by omega)), h.low.trans (hB.mono (by omega)), h.lt, Nat.lt_of_lt_of_le hk hB.size⟩
theorem Beside.later {w W : World} {bk bm : Nat} (hB : Below w.heap.size w W) : Beside w W bk bm := ⟨hB.size, fun b o hb _ _ _ => (hB.block b (Array.getElem?_eq_some_iff.1 hb).1).trans hb⟩

/-- A block behind k's, no row, turns: the state stays. -/
theorem NB.grown {wI w w' : World} {bk bm bv : Nat} {R : Nat → Row} {v0 v5 : Value} {f : Nat → Option Value} (h : NB wI w bk bm R v0 v5 f) {o : Obj} (hb : w.heap[bv]? = some o) (ho : NoRow o) (hbv : bk < bv) (hg : w.grownBy w' (some bv)) : NB wI w' bk bm R v0 v5 f := by
  have hlt := h.lt
  have hk := h.ltk
  have hbk : ∀ k : Nat, k < w.heap.size → k ≠ bv → w'.heap[k]? = w.heap[k]? := fun k hk hne => hg.block k hk (by simpa using hne)
  have ec : ∀ i, w'.cell? ⟨bk, i, none⟩ = w.cell? ⟨bk, i, none⟩ := fun i => World.cell?_of_block (a := ⟨bk, i, none⟩) (hbk bk hk (by omega))
  refine ⟨⟨fun j hj => ownsRow_of_block (h.six.own j hj) (fun k hkb => hbk k ((h.six.own j hj).lt k hkb).2 (fun e => h.six.apart hb ho j hj (by rw [← e]; exact hkb.symm))), h.six.sep⟩, (ec _).trans h.c0, (ec _).trans h.c1, (ec _).trans h.c2, fun i => (World.frozen?_of_block (a := ⟨bk, i, none⟩) (hbk bk hk (by omega))).trans (h.fz i), h.mp.kept (hbk bm (by omega) (by omega)), ⟨hg.os.trans h.low.os, hg.tape.trans h.low.tape, hg.output.trans h.low.output, Nat.le_trans h.low.size hg.size, fun k hk2 => (hbk k (by omega) (by omega)).trans (h.low.block k hk2)⟩, h.lt, Nat.lt_of_lt_of_le hk hg.size⟩
theorem MapIs.noRow {w : World} {b : Nat} {f : Nat → Option Value} (h : MapIs w b f) : ∃ o, w.heap[b]? = some o ∧ NoRow o := by
  obtain ⟨D, ⟨es, clock, h1, _⟩, _⟩ := h
  exact ⟨_, h1, trivial⟩
theorem MapIs.beside {w w' : World} {b bk bm : Nat} {f : Nat → Option Value} (h : MapIs w b f) (hb : Beside w w' bk bm) (h1 : bk < b) (h2 : bm < bk) : MapIs w' b f := by
  obtain ⟨o, h3, h4⟩ := h.noRow
  exact h.kept ((hb.keep b o h3 h4 (by omega) (by omega)).trans h3.symm)
end Go.Proofs.YbulkagqaDoor
