import Derived.Test.YbulkagtgC6
import Derived.Test.YbulkagtgC5
import Derived.Deep.RegionHeld3
namespace Go.Proofs.Ybulkagtg
open Go.RowKit Go.Lib
set_option linter.unusedVariables false

def tie0 (tie : Nat) : Int := if tie % 3 = 1 then 1 else if tie % 3 = 2 then 2 else 0

/-- The world in which the pool stands filled. -/
def poolW (w : World) (hb hs : Bool) (pb ps B Q lot tie n1 n2 : Nat) : World :=
  (((((w.alloc (Obj.cells #[Value.bool hb, Value.bool hs, Value.int IntKind.u32 pb, Value.int IntKind.u32 ps, Value.int IntKind.u16 B, Value.int IntKind.u16 Q, Value.int IntKind.u16 lot, Value.int IntKind.u8 tie] 25)).alloc
    (Obj.cells #[Value.string { data := #[] }, Value.int IntKind.i64 0, Value.int IntKind.i64 0, Value.int IntKind.i64 0, Value.int IntKind.i64 0, Value.map none, Value.int IntKind.i64 1, Value.int IntKind.i8 0] 39)).drewN (1 + n1)).setCell
      { block := w.heap.size + 1, off := 1 } (Value.int IntKind.i64 B)).drewN (1 + n2)).setCell { block := w.heap.size + 1, off := 3 } (Value.int IntKind.i64 Q)

theorem poolW_size (w : World) (hb hs : Bool) (pb ps B Q lot tie n1 n2 : Nat) : (poolW w hb hs pb ps B Q lot tie n1 n2).heap.size = w.heap.size + 2 := by
  simp [poolW, World.setCell]
theorem poolW_below (w : World) (hb hs : Bool) (pb ps B Q lot tie n1 n2 : Nat) : Below w.heap.size w (poolW w hb hs pb ps B Q lot tie n1 n2) := by
  have h1 := ((Below.refl w.heap.size w).alloc (Nat.le_refl _) (Obj.cells #[Value.bool hb, Value.bool hs, Value.int IntKind.u32 pb, Value.int IntKind.u32 ps, Value.int IntKind.u16 B, Value.int IntKind.u16 Q, Value.int IntKind.u16 lot, Value.int IntKind.u8 tie] 25))
  have h2 := h1.alloc (by simp) (Obj.cells #[Value.string { data := #[] }, Value.int IntKind.i64 0, Value.int IntKind.i64 0, Value.int IntKind.i64 0, Value.int IntKind.i64 0, Value.map none, Value.int IntKind.i64 1, Value.int IntKind.i8 0] 39)
  have h3 := (Below.drewN h2 (1 + n1)).setCell (p := ⟨w.heap.size + 1, 1, none⟩) (by simp) (Value.int IntKind.i64 B)
  exact (Below.drewN h3 (1 + n2)).setCell (p := ⟨w.heap.size + 1, 3, none⟩) (by simp) (Value.int IntKind.i64 Q)
theorem poolW_in (w : World) (hb hs : Bool) (pb ps B Q lot tie n1 n2 : Nat) : 
    (poolW w hb hs pb ps B Q lot tie n1 n2).cell? ⟨w.heap.size, 0, none⟩ = some (.bool hb) ∧ (poolW w hb hs pb ps B Q lot tie n1 n2).cell? ⟨w.heap.size, 1, none⟩ = some (.bool hs) ∧
    (poolW w hb hs pb ps B Q lot tie n1 n2).cell? ⟨w.heap.size, 2, none⟩ = some (.int .u32 pb) ∧ (poolW w hb hs pb ps B Q lot tie n1 n2).cell? ⟨w.heap.size, 3, none⟩ = some (.int .u32 ps) ∧
    (poolW w hb hs pb ps B Q lot tie n1 n2).cell? ⟨w.heap.size, 6, none⟩ = some (.int .u16 lot) ∧ (poolW w hb hs pb ps B Q lot tie n1 n2).cell? ⟨w.heap.size, 7, none⟩ = some (.int .u8 tie) := by
  simp [poolW, World.setCell, World.alloc, World.cell?, World.drewN, Array.getElem?_push, Array.getElem?_modify, -World.alloc_eq]
theorem poolW_pool (w : World) (hb hs : Bool) (pb ps B Q lot tie n1 n2 : Nat) : PoolAt (poolW w hb hs pb ps B Q lot tie n1 n2) (w.heap.size + 1) B Q 0 := by
  have hz := poolW_size w hb hs pb ps B Q lot tie n1 n2
  unfold poolW at *
  generalize hX : (w.alloc (Obj.cells #[Value.bool hb, Value.bool hs, Value.int IntKind.u32 pb, Value.int IntKind.u32 ps, Value.int IntKind.u16 B, Value.int IntKind.u16 Q, Value.int IntKind.u16 lot, Value.int IntKind.u8 tie] 25)) = X at *
  have hs : X.heap.size = w.heap.size + 1 := by subst hX; simp
  generalize hY : X.alloc (Obj.cells #[Value.string { data := #[] }, Value.int IntKind.i64 0, Value.int IntKind.i64 0, Value.int IntKind.i64 0, Value.int IntKind.i64 0, Value.map none, Value.int IntKind.i64 1, Value.int IntKind.i8 0] 39) = Y at *
  have c1 : Y.cell? ⟨w.heap.size + 1, 1, none⟩ = some (.int .i64 0) := by subst hY; rw [← hs]; simp
  have c3 : Y.cell? ⟨w.heap.size + 1, 3, none⟩ = some (.int .i64 0) := by subst hY; rw [← hs]; simp
  have c7 : Y.cell? ⟨w.heap.size + 1, 7, none⟩ = some (.int .i8 0) := by subst hY; rw [← hs]; simp
  have cf : Y.frozen? ⟨w.heap.size + 1, 7, none⟩ = false := by subst hY; rw [← hs]; simp [World.alloc, World.frozen?, -World.alloc_eq]
  have d3 : (((Y.drewN (1 + n1)).setCell ⟨w.heap.size + 1, 1, none⟩ (.int .i64 B)).drewN (1 + n2)).cell? ⟨w.heap.size + 1, 3, none⟩ = some (.int .i64 0) :=
    (World.cell?_setCell_other (Y.drewN (1 + n1)) ⟨w.heap.size + 1, 1, none⟩ ⟨w.heap.size + 1, 3, none⟩ _ (by simp)).trans c3
  refine ⟨?_, World.cell?_setCell_same _ _ _ d3, ?_, ?_, ?_⟩
  · exact (World.cell?_setCell_other _ ⟨w.heap.size + 1, 3, none⟩ ⟨w.heap.size + 1, 1, none⟩ _ (by simp)).trans (World.cell?_setCell_same (Y.drewN (1 + n1)) ⟨w.heap.size + 1, 1, none⟩ _ c1)
  · exact (World.cell?_setCell_other _ ⟨w.heap.size + 1, 3, none⟩ ⟨w.heap.size + 1, 7, none⟩ _ (by simp)).trans ((World.cell?_setCell_other (Y.drewN (1 + n1)) ⟨w.heap.size + 1, 1, none⟩ ⟨w.heap.size + 1, 7, none⟩ _ (by simp)).trans c7)
  · rw [World.frozen?_setCell]
    exact (World.frozen?_setCell (Y.drewN (1 + n1)) _ _ _).trans cf
  · omega

/-- Where the two orders stand. -/
structure OrdAt (w : World) (bp bo so : Nat) : Prop where
  b : ∃ c, w.heap[bo]? = some (.cells c 70)
  s : ∃ c, w.heap[so]? = some (.cells c 70)
  bl : bo < w.heap.size
  sl : so < w.heap.size
  nb : bo ≠ bp
  ns : so ≠ bp
  ne : bo ≠ so

theorem OrdAt.kept {w w' : World} {bp bo so : Nat} (h : OrdAt w bp bo so) (hz : w.heap.size ≤ w'.heap.size) (hk : ∀ k, k < w.heap.size → k ≠ bp → w'.heap[k]? = w.heap[k]?) : OrdAt w' bp bo so := by
  obtain ⟨c, hc⟩ := h.b
  obtain ⟨d, hd⟩ := h.s
  exact ⟨⟨c, (hk _ h.bl h.nb).trans hc⟩, ⟨d, (hk _ h.sl h.ns).trans hd⟩, Nat.lt_of_lt_of_le h.bl hz, Nat.lt_of_lt_of_le h.sl hz, h.nb, h.ns, h.ne⟩

theorem setCell_size (w : World) (a : Addr) (v : Value) : (w.setCell a v).heap.size = w.heap.size := by simp [World.setCell]

theorem heap_new (w : World) (o : Obj) (k : Nat) (h : k = w.heap.size) : (w.alloc o).heap[k]? = some o := by
  subst h
  exact Array.getElem?_push_size

theorem mkt_end {w W : World} {M N B Q pb ps lot : Nat} {t : Int} {vb vs : Option Addr} (hz : W.heap.size = N + 2) (hp : PoolAt W (N + 1) B Q t) (hW : Below M w W) (hM : M ≤ W.heap.size) (c1 c2 c3 c4 c5 : Array Value)
    (h20 : c2[0]? = some (.int .i64 pb)) (h21 : c2[1]? = some (.pointer (some ⟨N + 2, 0, none⟩))) (h40 : c4[0]? = some (.int .i64 ps)) (h41 : c4[1]? = some (.pointer (some ⟨N + 2 + 1 + 1, 0, none⟩)))
    (h52 : c5[2]? = some (.pointer vb)) (h55 : c5[5]? = some (.pointer vs)) (h5l : c5[20]? = some (.int .i64 lot)) (h5p : c5[21]? = some (.pointer (some ⟨N + 1, 0, none⟩))) :
    PoolAt (((((W.alloc (.cells c1 70)).alloc (.cells c2 78)).alloc (.cells c3 70)).alloc (.cells c4 78)).alloc (.cells c5 57)) (N + 1) B Q t ∧
    MktAt (((((W.alloc (.cells c1 70)).alloc (.cells c2 78)).alloc (.cells c3 70)).alloc (.cells c4 78)).alloc (.cells c5 57)) (N + 2 + 1 + 1 + 1 + 1) (N + 1) (N + 2 + 1) (N + 2 + 1 + 1 + 1) (N + 2) (N + 2 + 1 + 1) pb ps lot vb vs ∧
    OrdAt (((((W.alloc (.cells c1 70)).alloc (.cells c2 78)).alloc (.cells c3 70)).alloc (.cells c4 78)).alloc (.cells c5 57)) (N + 1) (N + 2) (N + 2 + 1 + 1) ∧
    Below M w (((((W.alloc (.cells c1 70)).alloc (.cells c2 78)).alloc (.cells c3 70)).alloc (.cells c4 78)).alloc (.cells c5 57)) := by
  have hb : Below W.heap.size W (((((W.alloc (.cells c1 70)).alloc (.cells c2 78)).alloc (.cells c3 70)).alloc (.cells c4 78)).alloc (.cells c5 57)) :=
    (((((Below.refl W.heap.size W).alloc (Nat.le_refl _) _).alloc (by simp) _).alloc (by simp; omega) _).alloc (by simp; omega) _).alloc (by simp; omega) _
  have b1 : (((((W.alloc (.cells c1 70)).alloc (.cells c2 78)).alloc (.cells c3 70)).alloc (.cells c4 78)).alloc (.cells c5 57)).heap[N + 2]? = some (.cells c1 70) :=
    (Below.heap_alloc _ _ _ (by simp; omega)).trans ((Below.heap_alloc _ _ _ (by simp; omega)).trans ((Below.heap_alloc _ _ _ (by simp; omega)).trans ((Below.heap_alloc _ _ _ (by simp; omega)).trans (heap_new _ _ _ (by omega)))))
  have b3 : (((((W.alloc (.cells c1 70)).alloc (.cells c2 78)).alloc (.cells c3 70)).alloc (.cells c4 78)).alloc (.cells c5 57)).heap[N + 2 + 1 + 1]? = some (.cells c3 70) :=
    (Below.heap_alloc _ _ _ (by simp; omega)).trans ((Below.heap_alloc _ _ _ (by simp; omega)).trans (heap_new _ _ _ (by simp; omega)))
  refine ⟨hp.below hb, ?_, ⟨⟨_, b1⟩, ⟨_, b3⟩, by simp; omega, by simp; omega, by omega, by omega, by omega⟩, hW.trans (hb.mono hM)⟩
  have b2 : (((((W.alloc (.cells c1 70)).alloc (.cells c2 78)).alloc (.cells c3 70)).alloc (.cells c4 78)).alloc (.cells c5 57)).heap[N + 2 + 1]? = some (.cells c2 78) :=
    (Below.heap_alloc _ _ _ (by simp; omega)).trans ((Below.heap_alloc _ _ _ (by simp; omega)).trans ((Below.heap_alloc _ _ _ (by simp; omega)).trans (heap_new _ _ _ (by simp; omega))))
  have b4 : (((((W.alloc (.cells c1 70)).alloc (.cells c2 78)).alloc (.cells c3 70)).alloc (.cells c4 78)).alloc (.cells c5 57)).heap[N + 2 + 1 + 1 + 1]? = some (.cells c4 78) :=
    (Below.heap_alloc _ _ _ (by simp; omega)).trans (heap_new _ _ _ (by simp; omega))
  have b5 : (((((W.alloc (.cells c1 70)).alloc (.cells c2 78)).alloc (.cells c3 70)).alloc (.cells c4 78)).alloc (.cells c5 57)).heap[N + 2 + 1 + 1 + 1 + 1]? = some (.cells c5 57) :=
    heap_new _ _ _ (by simp; omega)
  have hsz : (((((W.alloc (.cells c1 70)).alloc (.cells c2 78)).alloc (.cells c3 70)).alloc (.cells c4 78)).alloc (.cells c5 57)).heap.size = N + 7 := by simp [hz]
  generalize (((((W.alloc (.cells c1 70)).alloc (.cells c2 78)).alloc (.cells c3 70)).alloc (.cells c4 78)).alloc (.cells c5 57)) = V at *
  have cc : ∀ (k o : Nat) (c : Array Value) (e : TypeId), V.heap[k]? = some (.cells c e) → V.cell? ⟨k, o, none⟩ = c[o]? := by
    intro k o c e h
    simp only [World.cell?, h]
    rfl
  exact ⟨(cc _ _ _ _ b5).trans h52, (cc _ _ _ _ b5).trans h55, (cc _ _ _ _ b5).trans h5l, (cc _ _ _ _ b5).trans h5p, (cc _ _ _ _ b2).trans h20, (cc _ _ _ _ b2).trans h21, (cc _ _ _ _ b4).trans h40, (cc _ _ _ _ b4).trans h41, by omega, by omega, by omega, by omega, by omega, by omega⟩

set_option maxHeartbeats 2000000 in
theorem build_any (hb hs : Bool) (pb ps B Q lot tie : Nat) (w : World) (bB : B < 65536) (bQ : Q < 65536) (bl : lot < 65536) (b1 : pb < 4294967296) (b2 : ps < 4294967296) (b3 : tie < 256) :
    Calls Yba.prog 5 #[inAgg hb hs pb ps B Q lot tie] w fun e w' => ∃ bm bp bl sl bo so, e = .returned (.tuple #[.pointer (some ⟨bm, 0, none⟩), .pointer (some ⟨bo, 0, none⟩), .pointer (some ⟨so, 0, none⟩)]) ∧ bo ≠ so ∧ w.heap.size ≤ bp ∧ PoolAt w' bp B Q (tie0 tie) ∧
      MktAt w' bm bp bl sl bo so pb ps lot (if hb = true then some ⟨bl, 0, none⟩ else none) (if hs = true then some ⟨sl, 0, none⟩ else none) ∧ OrdAt w' bp bo so ∧ Below w.heap.size w w' := by
  unfold inAgg
  go_enter Yba.func5, Yba.ntmps5
  go_wp2_with fail
  go_region_held3 (fun w' => w'.cell? ⟨w.heap.size, 4, none⟩ = some (.int .u16 B)) (go_keep)
    (first
      | (go_at_call 9; refine (balance1_any _ _).mono ?_; rintro e w1 ⟨rfl, n1, rfl⟩))
  all_goals go_wp2_with fail
  all_goals go_region_held3 (fun w' => w'.cell? ⟨w.heap.size, 5, none⟩ = some (.int .u16 Q)) (go_keep)
    (first
      | (go_at_call 9; refine (balance2_any _ _).mono ?_; rintro e w1 ⟨rfl, n2, rfl⟩))
  have eB : IntKind.i64.wrap (B : Int) = (B : Int) := by rw [IntKind.wrap_i64]; omega
  have eQ : IntKind.i64.wrap (Q : Int) = (Q : Int) := by rw [IntKind.wrap_i64]; omega
  rw [eB, eQ]
  have e0 := poolW_size w hb hs pb ps B Q lot tie n1 n2
  have e1 := hid (poolW_below w hb hs pb ps B Q lot tie n1 n2)
  have e2 := poolW_in w hb hs pb ps B Q lot tie n1 n2
  have e3 := hid (poolW_pool w hb hs pb ps B Q lot tie n1 n2)
  change Exit.then _ _ _ _ (poolW w hb hs pb ps B Q lot tie n1 n2)
  generalize poolW w hb hs pb ps B Q lot tie n1 n2 = W at *
  obtain ⟨f0, f1, f2, f3, f6, f7⟩ := e2
  have p7 := e3.out.tie
  have p7f := e3.out.soft
  generalize hN : w.heap.size = N at *
  have HN := hid hN
  clear hN
  have hr : tie % 3 = 0 ∨ tie % 3 = 1 ∨ tie % 3 = 2 := by omega
  have hi : (tie : Int).tmod 3 = ((tie % 3 : Nat) : Int) := rfl
  rcases hr with hr | hr | hr
  · rw [hr] at hi
    have HT := hid (show tie0 tie = 0 from by simp [tie0, hr])
    clear hr
    go_wp2
    all_goals go_ret3
    all_goals refine ⟨N + 2 + 1 + 1 + 1 + 1, N + 1, N + 2 + 1, N + 2 + 1 + 1 + 1, N + 2, N + 2 + 1 + 1, rfl, by omega, by rw [HN.out]; omega, ?_⟩
    all_goals rw [HT.out, HN.out]
    all_goals exact mkt_end e0 e3.out e1.out (by rw [e0]; omega) _ _ _ _ _ rfl rfl rfl rfl rfl rfl rfl rfl
  · rw [hr] at hi
    have HT := hid (show tie0 tie = 1 from by simp [tie0, hr])
    clear hr
    go_wp2
    all_goals go_ret3
    all_goals refine ⟨N + 2 + 1 + 1 + 1 + 1, N + 1, N + 2 + 1, N + 2 + 1 + 1 + 1, N + 2, N + 2 + 1 + 1, rfl, by omega, by rw [HN.out]; omega, ?_⟩
    all_goals rw [HT.out, HN.out]
    all_goals exact mkt_end (by rw [setCell_size]; exact e0) (e3.out.store 1) (e1.out.setCell (p := ⟨N + 1, 7, none⟩) (by simp) (.int .i8 1)) (by rw [setCell_size, e0]; omega) _ _ _ _ _ rfl rfl rfl rfl rfl rfl rfl rfl
  · rw [hr] at hi
    have HT := hid (show tie0 tie = 2 from by simp [tie0, hr])
    clear hr
    go_wp2
    all_goals go_ret3
    all_goals refine ⟨N + 2 + 1 + 1 + 1 + 1, N + 1, N + 2 + 1, N + 2 + 1 + 1 + 1, N + 2, N + 2 + 1 + 1, rfl, by omega, by rw [HN.out]; omega, ?_⟩
    all_goals rw [HT.out, HN.out]
    all_goals exact mkt_end (by rw [setCell_size]; exact e0) (e3.out.store 2) (e1.out.setCell (p := ⟨N + 1, 7, none⟩) (by simp) (.int .i8 2)) (by rw [setCell_size, e0]; omega) _ _ _ _ _ rfl rfl rfl rfl rfl rfl rfl rfl
end Go.Proofs.Ybulkagtg
