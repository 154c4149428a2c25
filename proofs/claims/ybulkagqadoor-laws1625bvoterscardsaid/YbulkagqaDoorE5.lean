import Derived.Test.YbulkagqaDoorE4
import Derived.Test.YbulkagqaDoorW3
import Derived.Deep.DeepCutAuto
namespace Go.Proofs.YbulkagqaDoor
open Go.RowKit Go.Lib
set_option linter.unusedVariables false
set_option linter.unusedSimpArgs false

theorem nm_co (n : Nat) : ((nm n).toList == [99, 111]) = decide (n = 0) := by
  match n with
  | 0 => simp [nm]
  | 1 => simp [nm]
  | 2 => simp [nm]
  | n + 3 => simp [nm]

theorem mid_append' {ops : Array Oper} {rest : List Oper} {o : Oper} {a : Act} {Q : Exit → Act → World → Prop} (hgd : o.guard = none) (s x : Operand)
    (ho : o.op = .call { callee := .builtin .append, args := #[s, x], argTypes := #[24, 24] })
    (w0 w : World) (bs bt : Nat) (R : Nat → Value × List TieD) (t : TieD) (f : Nat → Bool) (vT vP : Value) (h : Mid w0 w bs bt R t f vT vP) (j : Nat) (hj : j < 6) (N : Nat) (hN : w.heap.size = N) (hs : a.eval s = (R j).1) (hx : a.eval x = .slice (some ⟨N, 0, none⟩) 1 1)
    (hlen : (R j).2.length ≤ 256) (W : World) (hW : W = w.alloc (.cells t.cells.toArray 53))
    (hh : ∀ g c w', Mid w0 w' bs bt (upd R j (.slice (some ⟨g, 0, none⟩) ((R j).2.length + 1) c, (R j).2 ++ [t])) t f vT vP → wpList Ybad.prog ops Q rest (a.put o.dst (.slice (some ⟨g, 0, none⟩) ((R j).2.length + 1) c)) w') : wpList Ybad.prog ops Q (o :: rest) a W := by
  subst hN
  exact mid_append hgd s x ho w0 w bs bt R t f vT vP h j hj hs hx hlen W hW hh

theorem SetAt.atV {w : World} {bs : Nat} {vT vP : Value} {f : Nat → Bool} (h : SetAt w bs vT vP f) (i : Nat) (hi : i < 4) : w.cell? ⟨bs, 3 + i, none⟩ = some (.bool (f i)) := by
  match i, hi with
  | 0, _ => exact h.v0
  | 1, _ => exact h.v1
  | 2, _ => exact h.v2
  | 3, _ => exact h.v3

theorem tie_made (w : World) (x0 x1 x2 : ByteArray) (F T : Int) (o : Obj) (p : Value) (hp : p = .pointer (some ⟨w.heap.size + 1, 0, none⟩)) :
    ∃ bt, p = .pointer (some ⟨bt, 0, none⟩) ∧ w.heap.size ≤ bt ∧ bt < ((w.alloc o).alloc (Obj.cells #[Value.string x0, Value.string x1, Value.string x2, Value.pointer none, Value.int IntKind.i32 F, Value.int IntKind.i32 T, Value.int IntKind.i64 0] 53)).drew.heap.size ∧
      TieAt ((w.alloc o).alloc (Obj.cells #[Value.string x0, Value.string x1, Value.string x2, Value.pointer none, Value.int IntKind.i32 F, Value.int IntKind.i32 T, Value.int IntKind.i64 0] 53)).drew bt 0 { subj := x0, rel := x1, obj := x2, F := F, T := T, L := 0 } ∧
      Below w.heap.size w ((w.alloc o).alloc (Obj.cells #[Value.string x0, Value.string x1, Value.string x2, Value.pointer none, Value.int IntKind.i32 F, Value.int IntKind.i32 T, Value.int IntKind.i64 0] 53)).drew := by
  refine ⟨w.heap.size + 1, hp, by omega, by simp, ?_, (((Below.refl _ _).alloc (Nat.le_refl _) _).alloc (by simp) _).drew⟩
  have hs : (w.alloc o).heap.size = w.heap.size + 1 := by simp
  rw [← hs]
  refine ⟨?_, ?_, ?_, ?_, ?_, ?_, ?_⟩
  all_goals simp

/-- Dates lie in that block, from its start. -/
def DatesAt (w : World) (g : Nat) (fs : List Int) : Prop := ∀ j, j < fs.length → w.cell? ⟨g, j, none⟩ = some (.int .i32 (fs.getD j 0))
theorem DatesAt.later {w w' : World} {g : Nat} {fs : List Int} (h : DatesAt w g fs) (hb : w'.heap[g]? = w.heap[g]?) : DatesAt w' g fs := fun j hj => (World.cell?_of_block (a := ⟨g, j, none⟩) hb).trans (h j hj)

theorem push_below {w W : World} {o : Obj} (hH : W.heap = w.heap.push o) (hos : W.os = w.os) (hta : W.tape = w.tape) (hou : W.output = w.output) : Below w.heap.size w W :=
  ⟨hos, hta, hou, by rw [hH]; simp, fun k hk => by rw [hH, Array.getElem?_push, if_neg (by omega)]⟩

theorem spans_two (w W : World) (v0 v1 : Value) (A B : List TieD) (e : TypeId) (hW : W = w.alloc (.cells #[v0, v1] e)) (b : Nat) (hb : b = w.heap.size) (hA : TiesAt w v0 A) (hB : TiesAt w v1 B) (hl : A.length + B.length ≤ 4096) (hT : ∀ t ∈ A ++ B, -2147483648 ≤ t.T ∧ t.T ≤ 2147483647) :
    Calls Ybad.prog 14 #[.slice (some ⟨b, 0, none⟩) 2 2] W fun e w' => ∃ g cap, e = .returned (.slice (some ⟨g, 0, none⟩) (spansL (A ++ B)).length cap) ∧ DatesAt w' g (spansL (A ++ B)) ∧ W.heap.size ≤ g ∧ g < w'.heap.size ∧ Below W.heap.size W w' ∧ (spansL (A ++ B)).length ≤ cap := by
  subst hW hb
  have ht : tiesOf [(v0, A), (v1, B)] = A ++ B := by simp [tiesOf]
  have h := spans_any w.heap.size [(v0, A), (v1, B)] (w.alloc (.cells #[v0, v1] e)) (by simp) (by rw [ht]; simpa using hl) (fun j p hj => by
    have hk : ∀ k, k < w.heap.size → (w.alloc (.cells #[v0, v1] e)).heap[k]? = w.heap[k]? := fun k hk => Below.heap_alloc _ _ k hk
    match j, hj with
    | 0, hj => simp at hj; subst hj; exact ⟨by simp, hA.later hk⟩
    | 1, hj => simp at hj; subst hj; exact ⟨by simp, hB.later hk⟩) (by rw [ht]; exact hT)
  rw [ht] at h
  exact h
theorem spans_one (w W : World) (v0 : Value) (A : List TieD) (e : TypeId) (hW : W = w.alloc (.cells #[v0] e)) (b : Nat) (hb : b = w.heap.size) (hA : TiesAt w v0 A) (hl : A.length ≤ 4096) (hT : ∀ t ∈ A, -2147483648 ≤ t.T ∧ t.T ≤ 2147483647) :
    Calls Ybad.prog 14 #[.slice (some ⟨b, 0, none⟩) 1 1] W fun e w' => ∃ g cap, e = .returned (.slice (some ⟨g, 0, none⟩) (spansL A).length cap) ∧ DatesAt w' g (spansL A) ∧ W.heap.size ≤ g ∧ g < w'.heap.size ∧ Below W.heap.size W w' ∧ (spansL A).length ≤ cap := by
  subst hW hb
  have ht : tiesOf [(v0, A)] = A := by simp [tiesOf]
  have h := spans_any w.heap.size [(v0, A)] (w.alloc (.cells #[v0] e)) (by simp) (by rw [ht]; simpa using hl) (fun j p hj => by
    have hk : ∀ k, k < w.heap.size → (w.alloc (.cells #[v0] e)).heap[k]? = w.heap[k]? := fun k hk => Below.heap_alloc _ _ k hk
    match j, hj with
    | 0, hj => simp at hj; subst hj; exact ⟨by simp, hA.later hk⟩) (by rw [ht]; exact hT)
  rw [ht] at h
  exact h

theorem rowL_T (j : Nat) (ins : List InD) (hok : ∀ x ∈ ins, x.ok) : ∀ t ∈ rowL j ins, -2147483648 ≤ t.T ∧ t.T ≤ 2147483647 := by
  intro t ht
  simp only [rowL, List.mem_map, List.mem_filter] at ht
  obtain ⟨x, ⟨hx, _⟩, rfl⟩ := ht
  exact ⟨(hok x hx).T0, (hok x hx).T1⟩

theorem binv_start (w : World) (bs : Nat) (hbs : w.heap.size + 1 = bs) (o : Obj) : BInv (w.alloc o) ((w.alloc o).alloc (.cells #[.pointer none, .slice none 0 0, .slice none 0 0, .bool false, .bool false, .bool false, .bool false] 27)) bs (fun _ => (.slice none 0 0, [])) [] := by
  have hs : (w.alloc o).heap.size = bs := by simp [hbs]
  refine ⟨⟨fun j hj => World.ownsRow_nil _ _ _ _, fun i j _ _ _ k hk => (by cases hk), fun j _ hk => (by cases hk)⟩, ?_, fun j hj => rfl, (Below.refl _ _).alloc (Nat.le_refl _) _, by simp; omega, by omega⟩
  rw [← hs]
  exact ⟨by simp, by simp, by simp, by simp [voteB], by simp [voteB], by simp [voteB], by simp [voteB], fun i => by simp⟩

/-- The calendar that build makes. -/
structure CalAt (w : World) (bc : Nat) (ins : List InD) : Prop where
  other : ∃ v, w.cell? ⟨bc, 2, none⟩ = some v ∧ TiesAt w v (rowL 1 ins)
  seats : ∃ v, w.cell? ⟨bc, 5, none⟩ = some v ∧ TiesAt w v (rowL 2 ins)
  firsts : ∃ g c, w.cell? ⟨bc, 6, none⟩ = some (.slice (some ⟨g, 0, none⟩) (spansL (rowL 0 ins ++ rowL 1 ins)).length c) ∧ DatesAt w g (spansL (rowL 0 ins ++ rowL 1 ins)) ∧ g < w.heap.size
  owns : ∃ b g c, w.cell? ⟨bc, 9, none⟩ = some (.pointer (some ⟨b, 0, none⟩)) ∧ w.cell? ⟨b, 1, none⟩ = some (.slice (some ⟨g, 0, none⟩) (spansL (rowL 0 ins)).length c) ∧ DatesAt w g (spansL (rowL 0 ins)) ∧ (spansL (rowL 0 ins)).length ≤ c ∧ g < w.heap.size
  fams : ∃ b g c, w.cell? ⟨bc, 10, none⟩ = some (.pointer (some ⟨b, 0, none⟩)) ∧ w.cell? ⟨b, 1, none⟩ = some (.slice (some ⟨g, 0, none⟩) (spansL (rowL 3 ins)).length c) ∧ DatesAt w g (spansL (rowL 3 ins)) ∧ (spansL (rowL 3 ins)).length ≤ c ∧ g < w.heap.size

theorem build_end (wr u1 u2 u3 X Wf : World) (ins : List InD) (bs : Nat) (v0 v1 v2 v4 v5 : Value) (g c g2 c2 g3 c3 : Nat)
    (hWf : Wf = (X.alloc (.cells #[.slice none 0 0, .slice (some ⟨g3, 0, none⟩) (spansL (rowL 3 ins)).length c3, .nilFunc, .slice none 0 0, .int .i64 0] 73)).alloc (.cells #[.pointer none, v0, v1, .map none, .map none, v2, .slice (some ⟨g, 0, none⟩) (spansL (rowL 0 ins ++ rowL 1 ins)).length c, .slice none 0 0, .int .i64 0, .pointer (some ⟨u2.heap.size, 0, none⟩), .pointer (some ⟨u3.heap.size, 0, none⟩), .pointer none, .map none, .map none, .slice none 0 0, .slice none 0 0, .map none, .slice none 0 0, .map none] 48))
    (hXs : X.heap.size = u3.heap.size) (hXk : ∀ k, bs < k → X.heap[k]? = u3.heap[k]?) (hSZ : wr.heap.size < u1.heap.size ∧ u1.heap.size < u2.heap.size ∧ u2.heap.size + 1 < u3.heap.size) (hbs : bs < wr.heap.size)
    (hK1 : ∀ k, k < wr.heap.size → u1.heap[k]? = wr.heap[k]?) (hK2 : ∀ k, k < u1.heap.size → u2.heap[k]? = u1.heap[k]?) (hK3 : ∀ k, k < u2.heap.size → u3.heap[k]? = u2.heap[k]?)
    (hBO : u3.heap[u2.heap.size]? = some (.cells #[.slice none 0 0, .slice (some ⟨g2, 0, none⟩) (spansL (rowL 0 ins)).length c2, .nilFunc, .slice none 0 0, .int .i64 0] 69))
    (hD1 : DatesAt u1 g (spansL (rowL 0 ins ++ rowL 1 ins))) (hg1 : wr.heap.size ≤ g) (hl1 : g < u1.heap.size)
    (hD2 : DatesAt u2 g2 (spansL (rowL 0 ins))) (hg2 : u1.heap.size ≤ g2) (hl2 : g2 < u2.heap.size) (hc2 : (spansL (rowL 0 ins)).length ≤ c2)
    (hD3 : DatesAt u3 g3 (spansL (rowL 3 ins))) (hg3 : u2.heap.size ≤ g3) (hl3 : g3 < u3.heap.size) (hc3 : (spansL (rowL 3 ins)).length ≤ c3)
    (hT1 : TiesAt wr v1 (rowL 1 ins)) (hT2 : TiesAt wr v2 (rowL 2 ins)) (hT4 : TiesAt wr v4 (rowL 4 ins)) (hT5 : TiesAt wr v5 (rowL 5 ins))
    (hO : ∀ v, v = v1 ∨ v = v2 ∨ v = v4 ∨ v = v5 → ∀ k, v.ownBlock = some k → bs < k ∧ k < wr.heap.size) :
    CalAt Wf (u3.heap.size + 1) ins ∧ TiesAt Wf v4 (rowL 4 ins) ∧ TiesAt Wf v5 (rowL 5 ins) := by
  obtain ⟨s1, s2, s3⟩ := hSZ
  have hF : ∀ k, bs < k → k < u3.heap.size → Wf.heap[k]? = u3.heap[k]? := fun k h1 h2 => by
    rw [hWf, Below.heap_alloc _ _ k (by simp; omega), Below.heap_alloc _ _ k (by omega)]; exact hXk k h1
  have hFw : ∀ k, bs < k → k < wr.heap.size → Wf.heap[k]? = wr.heap[k]? := fun k h1 h2 => (hF k h1 (by omega)).trans ((hK3 k (by omega)).trans ((hK2 k (by omega)).trans (hK1 k h2)))
  have hsz : Wf.heap.size = u3.heap.size + 2 := by rw [hWf]; simp [hXs]
  have hc48 : ∀ (i : Nat) (cs : Array Value) (w1 : World), Wf = w1.alloc (.cells cs 48) → w1.heap.size = u3.heap.size + 1 → Wf.cell? ⟨u3.heap.size + 1, i, none⟩ = cs[i]? := by
    intro i cs w1 h1 h2
    rw [h1]; exact World.cell?_alloc_at cs 48 _ i h2.symm
  have h1s : (X.alloc (.cells #[.slice none 0 0, .slice (some ⟨g3, 0, none⟩) (spansL (rowL 3 ins)).length c3, .nilFunc, .slice none 0 0, .int .i64 0] 73)).heap.size = u3.heap.size + 1 := by simp [hXs]
  have hc73 : Wf.cell? ⟨u3.heap.size, 1, none⟩ = some (.slice (some ⟨g3, 0, none⟩) (spansL (rowL 3 ins)).length c3) := by
    rw [hWf, World.cell?_alloc_past _ _ _ (by simp [hXs]), World.cell?_alloc_at _ _ _ _ hXs.symm]; rfl
  have hT : ∀ v ts, (v = v1 ∨ v = v2 ∨ v = v4 ∨ v = v5) → TiesAt wr v ts → TiesAt Wf v ts := fun v ts hv h => h.kept (fun k hk => hFw k (hO v hv k hk).1 (hO v hv k hk).2)
  refine ⟨⟨⟨v1, by rw [hc48 2 _ _ hWf h1s]; rfl, hT _ _ (by simp) hT1⟩, ⟨v2, by rw [hc48 5 _ _ hWf h1s]; rfl, hT _ _ (by simp) hT2⟩, ⟨g, c, by rw [hc48 6 _ _ hWf h1s]; rfl, hD1.later ((hF g (by omega) (by omega)).trans ((hK3 g (by omega)).trans (hK2 g hl1))), by omega⟩,
    ⟨u2.heap.size, g2, c2, by rw [hc48 9 _ _ hWf h1s]; rfl, ?_, hD2.later ((hF g2 (by omega) (by omega)).trans (hK3 g2 hl2)), hc2, by omega⟩,
    ⟨u3.heap.size, g3, c3, by rw [hc48 10 _ _ hWf h1s]; rfl, hc73, hD3.later (hF g3 (by omega) hl3), hc3, by omega⟩⟩, hT _ _ (by simp) hT4, hT _ _ (by simp) hT5⟩
  have := hF u2.heap.size (by omega) (by omega)
  rw [hBO] at this
  simp [World.cell?, this]

set_option maxHeartbeats 4000000 in
set_option maxRecDepth 100000 in
theorem build_any (a : Option Addr) (cap : Nat) (ins : List InD) (w : World) (hn : ins.length ≤ 256) (hI : InsAt w a ins) :
    Calls Ybad.prog 6 #[.slice a ins.length cap] w fun e w' => ∃ bc vT vP, e = .returned (.agg #[.pointer (some ⟨bc, 0, none⟩), vT, vP, .bool (voteB 0 ins), .bool (voteB 1 ins), .bool (voteB 2 ins), .bool (voteB 3 ins)]) ∧ CalAt w' bc ins ∧ TiesAt w' vT (rowL 4 ins) ∧ TiesAt w' vP (rowL 5 ins) ∧ Below w.heap.size w w' := by
  have HI := hid hI
  clear hI
  generalize hN : ins.length = n at *
  have HN := hid hN
  clear hN
  go_enter Ybad.func6, Ybad.ntmps6
  go_wp2
  generalize hbs : w.heap.size + 1 = bs at *
  have HBS := hid hbs
  clear hbs
  obtain ⟨wB, hwB⟩ : ∃ wB, wB = w.alloc (.cells #[.pointer none, .slice none 0 0, .slice none 0 0, .bool false, .bool false, .bool false, .bool false] 27) := ⟨_, rfl⟩
  have HWB := hid hwB
  have HIB := hid (show InsAt wB a ins from fun k x hx => by
    obtain ⟨hok, b, off, rfl, hat, hbl⟩ := HI.out k x hx
    subst hwB
    have e : ∀ o, (w.alloc (.cells #[.pointer none, .slice none 0 0, .slice none 0 0, .bool false, .bool false, .bool false, .bool false] 27)).cell? ⟨b, o, none⟩ = w.cell? ⟨b, o, none⟩ := fun o => World.cell?_of_block (a := ⟨b, o, none⟩) (Below.heap_alloc _ _ b hbl)
    exact ⟨hok, b, off, rfl, ⟨(e _).trans hat.c0, (e _).trans hat.c1, (e _).trans hat.c2, (e _).trans hat.c3, (e _).trans hat.c4⟩, by simp; omega⟩)
  clear hwB
  go_loopw [4, 5, 6, 7, 14] (fun s4 s5 s6 s7 s14 wr => ∃ (k : Nat) (R : Nat → Value × List TieD), k ≤ n ∧ s14 = .int .i64 k ∧ s4 = (R 0).1 ∧ s5 = (R 1).1 ∧ s6 = (R 2).1 ∧ s7 = (R 3).1 ∧ BInv wB wr bs R (ins.take k)) (fun _ _ _ _ s14 _ => n - (RowKit.intOf s14).toNat)
  case atStart => exact ⟨0, fun _ => (.slice none 0 0, []), Nat.zero_le _, rfl, rfl, rfl, rfl, rfl, by rw [HWB.out]; exact binv_start w bs HBS.out _⟩
  case round =>
    obtain ⟨k, R, hk, rfl, rfl, rfl, rfl, rfl, hInv⟩ := hrel
    have HINV := hid hInv
    clear hInv
    by_cases hkn : k < n
    · obtain ⟨x, hx⟩ : ∃ x, ins[k]? = some x := ⟨ins[k]'(by rw [HN.out]; exact hkn), List.getElem?_eq_getElem _⟩
      obtain ⟨hok, b, off, rfl, hat0, hbl⟩ := HIB.out k x hx
      have HX := hid hx
      have HOK := hid hok
      have hat : InAt wr b (off + k * 5) x := ⟨(HINV.out.below.cell (p := ⟨b, off + k * 5, none⟩) hbl).trans hat0.c0, (HINV.out.below.cell (p := ⟨b, off + k * 5 + 1, none⟩) hbl).trans hat0.c1, (HINV.out.below.cell (p := ⟨b, off + k * 5 + 2, none⟩) hbl).trans hat0.c2, (HINV.out.below.cell (p := ⟨b, off + k * 5 + 3, none⟩) hbl).trans hat0.c3, (HINV.out.below.cell (p := ⟨b, off + k * 5 + 4, none⟩) hbl).trans hat0.c4⟩
      obtain ⟨c0, c1, c2, c3, c4⟩ := hat
      clear hat0 hx hok
      obtain ⟨xs, xr, xo, xF, xT⟩ := x
      simp only at c0 c1 c2 c3 c4
      have hki : (k : Int) < (n : Int) := by omega
      have hlr : xr < 256 := HOK.out.r
      have hi : (xr : Int).tmod 11 = ((xr % 11 : Nat) : Int) := rfl
      have hr : xr % 11 < 11 := by omega
      generalize hxr : xr % 11 = r at *
      have HR := hid hxr
      clear hxr
      have hls : xs < 256 := HOK.out.s
      have hlo : xo < 256 := HOK.out.o
      go_wp2_with fail
      have HLEN := hid (fun j (hj : j < 6) => show (R j).2.length ≤ 256 from by
        rw [HINV.out.lists j hj]
        have h1 := rowL_len j (ins.take k)
        have h2 : (ins.take k).length ≤ k := by rw [List.length_take]; exact Nat.min_le_left _ _
        omega)
      go_cut [11] (fun s11 wc => ∃ bt, s11 = .pointer (some ⟨bt, 0, none⟩) ∧ wr.heap.size ≤ bt ∧ bt < wc.heap.size ∧ TieAt wc bt 0 { subj := nm (xs % 4), rel := rl r, obj := nm (xo % 4), F := xF, T := xT, L := 0 } ∧ Below wr.heap.size wr wc)
      case first =>
        go_region_held3 (fun w' => w'.cell? ⟨wr.heap.size, 0, none⟩ = some (.int .u8 xs) ∧ w'.cell? ⟨wr.heap.size, 2, none⟩ = some (.int .u8 xo) ∧ w'.cell? ⟨wr.heap.size, 3, none⟩ = some (.int .i32 xF) ∧ w'.cell? ⟨wr.heap.size, 4, none⟩ = some (.int .i32 xT)) (go_keep)
          (first
            | (go_at_call_of 11 (Value.int IntKind.u8 (xs : Int)); refine (name_any xs _ hls).mono ?_; rintro e w1 ⟨rfl, rfl⟩)
            | (go_at_call_of 11 (Value.int IntKind.u8 (xo : Int)); refine (name_any xo _ hlo).mono ?_; rintro e w1 ⟨rfl, rfl⟩)
            | (go_at_call 13; refine (rel_any r _ hr).mono ?_; rintro e w1 ⟨rfl, rfl⟩))
        all_goals (go_wp2_with fail; go_meet; exact tie_made _ _ _ _ _ _ _ _ rfl)
      case rest =>
        obtain ⟨bt, rfl, hge, hlt, hT, hB⟩ := hcut
        have HMID := hid (show Mid wB wc bs bt R { subj := nm (xs % 4), rel := rl r, obj := nm (xo % 4), F := xF, T := xT, L := 0 } (fun i => voteB i (ins.take k)) (R 4).1 (R 5).1 from
          ⟨(HINV.out.rows.kept (fun b hb1 hb2 => hB.block b hb2)).new' hge HINV.out.rows, hT, HINV.out.set.kept (hB.block bs HINV.out.lt), HINV.out.below.trans (hB.mono HINV.out.below.size), HINV.out.ge, Nat.lt_of_lt_of_le HINV.out.lt hB.size, hlt, Nat.lt_of_lt_of_le HINV.out.lt hge⟩)
        obtain ⟨q0, q1, q2, q3, q4, q5, q6⟩ := hT
        have HL := hid HINV.out.lists
        simp only [Nat.zero_add] at q0 q1 q2 q3 q4 q5 q6
        clear hB c0 c1 c2 c3 c4
        have hcls : r = 0 ∨ r = 10 ∨ r = 1 ∨ (2 ≤ r ∧ r ≤ 3) ∨ (4 ≤ r ∧ r ≤ 6) ∨ (7 ≤ r ∧ r ≤ 9) := by omega
        rcases hcls with rfl | rfl | rfl | hcls | hcls | hcls
        · -- 0: owned, turned
          go_wp2_with (first
            | (at_builtin; refine mid_append rfl (.tmp 45) (.tmp 47) rfl wB wc bs bt R { subj := nm (xs % 4), rel := rl 0, obj := nm (xo % 4), F := xF, T := xT, L := 0 } _ _ _ HMID.out 0 (by decide) rfl rfl (HLEN.out 0 (by decide)) _ rfl ?_; intro y1 z1 w1 hM1; have HM1 := hid hM1; obtain ⟨q0, q1, q2, q3, q4, q5, q6⟩ := hM1.tie; simp only [Nat.zero_add] at q0 q1 q2 q3 q4 q5 q6; have p1 := HM1.out.set.c1; clear hM1)
            | (at_builtin; refine mid_append rfl (.tmp 50) (.tmp 52) rfl wB w1 bs bt _ _ _ _ _ HM1.out 4 (by decide) rfl rfl (HLEN.out 4 (by decide)) _ rfl ?_; intro y2 z2 w2 hM2; have HM2 := hid (hM2.setT (.slice (some ⟨y2, 0, none⟩) ((R 4).2.length + 1) z2)); have pc := hM2.set.c1; have pf := hM2.set.fz 1; obtain ⟨s0, s1, s2, s3, s4, s5, s6⟩ := HM2.out.tie; simp only [Nat.zero_add] at s0 s1 s2 s3 s4 s5 s6; obtain ⟨q0, q1, q2, q3, q4, q5, q6⟩ := hM2.tie; simp only [Nat.zero_add] at q0 q1 q2 q3 q4 q5 q6; clear hM2))
          go_roundw
          case rel =>
            have HTie : tieOf { s := xs, r := xr, o := xo, F := xF, T := xT } = { subj := nm (xs % 4), rel := rl 0, obj := nm (xo % 4), F := xF, T := xT, L := 0 } := by simp [tieOf, HR.out]
            have hrr := HR.out
            exact rel_of (binv_step HM2.out rfl rfl HX.out HL.out (fun m => by simp [sel]; omega) (six (sel_t (by simp [sel]; omega) HTie) (sel_f (by simp [sel]; omega)) (sel_f (by simp [sel]; omega)) (sel_f (by simp [sel]; omega)) (sel_t (by simp [sel]; omega) HTie) (sel_f (by simp [sel]; omega)))) (by omega) (by go_num) rfl rfl rfl rfl
          case measure => simp [RowKit.intOf]; omega
        · -- 10: owned, turned
          go_wp2_with (first
            | (at_builtin; refine mid_append rfl (.tmp 45) (.tmp 47) rfl wB wc bs bt R { subj := nm (xs % 4), rel := rl 10, obj := nm (xo % 4), F := xF, T := xT, L := 0 } _ _ _ HMID.out 0 (by decide) rfl rfl (HLEN.out 0 (by decide)) _ rfl ?_; intro y1 z1 w1 hM1; have HM1 := hid hM1; obtain ⟨q0, q1, q2, q3, q4, q5, q6⟩ := hM1.tie; simp only [Nat.zero_add] at q0 q1 q2 q3 q4 q5 q6; have p1 := HM1.out.set.c1; clear hM1)
            | (at_builtin; refine mid_append rfl (.tmp 50) (.tmp 52) rfl wB w1 bs bt _ _ _ _ _ HM1.out 4 (by decide) rfl rfl (HLEN.out 4 (by decide)) _ rfl ?_; intro y2 z2 w2 hM2; have HM2 := hid (hM2.setT (.slice (some ⟨y2, 0, none⟩) ((R 4).2.length + 1) z2)); have pc := hM2.set.c1; have pf := hM2.set.fz 1; obtain ⟨s0, s1, s2, s3, s4, s5, s6⟩ := HM2.out.tie; simp only [Nat.zero_add] at s0 s1 s2 s3 s4 s5 s6; obtain ⟨q0, q1, q2, q3, q4, q5, q6⟩ := hM2.tie; simp only [Nat.zero_add] at q0 q1 q2 q3 q4 q5 q6; clear hM2))
          go_roundw
          case rel =>
            have HTie : tieOf { s := xs, r := xr, o := xo, F := xF, T := xT } = { subj := nm (xs % 4), rel := rl 10, obj := nm (xo % 4), F := xF, T := xT, L := 0 } := by simp [tieOf, HR.out]
            have hrr := HR.out
            exact rel_of (binv_step HM2.out rfl rfl HX.out HL.out (fun m => by simp [sel]; omega) (six (sel_t (by simp [sel]; omega) HTie) (sel_f (by simp [sel]; omega)) (sel_f (by simp [sel]; omega)) (sel_f (by simp [sel]; omega)) (sel_t (by simp [sel]; omega) HTie) (sel_f (by simp [sel]; omega)))) (by omega) (by go_num) rfl rfl rfl rfl
          case measure => simp [RowKit.intOf]; omega
        · -- 1: owned, turned; at the company: seats
          have nb1 : bs ≠ bt := Nat.ne_of_lt HMID.out.bsb
          have nb2 : bt ≠ bs := Nat.ne_of_gt HMID.out.bsb
          by_cases hco : xo % 4 = 0
          · have hst : ((nm (xo % 4)).toList == [99, 111]) = true := by rw [nm_co]; simp [hco]
            have HCO := hid hco
            clear hco
            obtain ⟨i, hi4, hxi⟩ : ∃ i, i < 4 ∧ xs % 4 = i := ⟨xs % 4, by omega, rfl⟩
            rw [hxi] at HMID q0
            have HXI := hid hxi
            clear hxi
            have hi0 : (0 : Int) ≤ (i : Int) := by omega
            have hi1 : (i : Int) < 4 := by omega
            go_wp2_with (first
              | (at_builtin; refine mid_append rfl (.tmp 45) (.tmp 47) rfl wB wc bs bt R { subj := nm (i), rel := rl 1, obj := nm (xo % 4), F := xF, T := xT, L := 0 } _ _ _ HMID.out 0 (by decide) rfl rfl (HLEN.out 0 (by decide)) _ rfl ?_; intro y1 z1 w1 hM1; have HM1 := hid hM1; obtain ⟨q0, q1, q2, q3, q4, q5, q6⟩ := hM1.tie; simp only [Nat.zero_add] at q0 q1 q2 q3 q4 q5 q6; have p1 := HM1.out.set.c1; clear hM1)
              | (at_builtin; refine mid_append rfl (.tmp 50) (.tmp 52) rfl wB w1 bs bt _ _ _ _ _ HM1.out 4 (by decide) rfl rfl (HLEN.out 4 (by decide)) _ rfl ?_; intro y2 z2 w2 hM2; have HM2 := hid (hM2.setT (.slice (some ⟨y2, 0, none⟩) ((R 4).2.length + 1) z2)); have pc := hM2.set.c1; have pf := hM2.set.fz 1; obtain ⟨s0, s1, s2, s3, s4, s5, s6⟩ := HM2.out.tie; simp only [Nat.zero_add] at s0 s1 s2 s3 s4 s5 s6; obtain ⟨q0, q1, q2, q3, q4, q5, q6⟩ := hM2.tie; simp only [Nat.zero_add] at q0 q1 q2 q3 q4 q5 q6; clear hM2)
              | (at_builtin; refine mid_append' rfl (.tmp 98) (.tmp 100) rfl wB (w2.setCell ⟨bs, 1, none⟩ (.slice (some ⟨y2, 0, none⟩) ((R 4).2.length + 1) z2)) bs bt _ _ _ _ _ HM2.out 2 (by decide) w2.heap.size (by simp [World.setCell]) rfl rfl (HLEN.out 2 (by decide)) _ rfl ?_; intro y3 z3 w3 hM3; have HM3 := hid hM3; obtain ⟨q0, q1, q2, q3, q4, q5, q6⟩ := hM3.tie; simp only [Nat.zero_add] at q0 q1 q2 q3 q4 q5 q6; have pv := HM3.out.set.atV i hi4; have pvf := HM3.out.set.fz (3 + i); clear hM3)
              | (go_at_call 12; refine (idx_any i _ hi4).mono ?_; rintro e w9 ⟨rfl, rfl⟩))
            go_roundw
            case rel =>
              have HTie : tieOf { s := xs, r := xr, o := xo, F := xF, T := xT } = { subj := nm (i), rel := rl 1, obj := nm (xo % 4), F := xF, T := xT, L := 0 } := by simp [tieOf, HR.out, HXI.out]
              have hrr := HR.out
              have hcc := HCO.out
              have hxx := HXI.out
              exact rel_of (binv_step (HM3.out.setV (f' := fun m => voteB m (ins.take k) || (i == m)) i hi4 (fun m => rfl)) rfl rfl HX.out HL.out (fun m => by rw [show sel 2 { s := xs, r := xr, o := xo, F := xF, T := xT } = true from by simp [sel]; omega, Bool.true_and, hxx]) (six (sel_t (by simp [sel]; omega) HTie) (sel_f (by simp [sel]; omega)) (sel_t (by simp [sel]; omega) HTie) (sel_f (by simp [sel]; omega)) (sel_t (by simp [sel]; omega) HTie) (sel_f (by simp [sel]; omega)))) (by omega) (by go_num) rfl rfl rfl rfl
            case measure => simp [RowKit.intOf]; omega
          · have hst : ((nm (xo % 4)).toList == [99, 111]) = false := by rw [nm_co]; simp [hco]
            have HCO := hid hco
            clear hco
            go_wp2_with (first
              | (at_builtin; refine mid_append rfl (.tmp 45) (.tmp 47) rfl wB wc bs bt R { subj := nm (xs % 4), rel := rl 1, obj := nm (xo % 4), F := xF, T := xT, L := 0 } _ _ _ HMID.out 0 (by decide) rfl rfl (HLEN.out 0 (by decide)) _ rfl ?_; intro y1 z1 w1 hM1; have HM1 := hid hM1; obtain ⟨q0, q1, q2, q3, q4, q5, q6⟩ := hM1.tie; simp only [Nat.zero_add] at q0 q1 q2 q3 q4 q5 q6; have p1 := HM1.out.set.c1; clear hM1)
              | (at_builtin; refine mid_append rfl (.tmp 50) (.tmp 52) rfl wB w1 bs bt _ _ _ _ _ HM1.out 4 (by decide) rfl rfl (HLEN.out 4 (by decide)) _ rfl ?_; intro y2 z2 w2 hM2; have HM2 := hid (hM2.setT (.slice (some ⟨y2, 0, none⟩) ((R 4).2.length + 1) z2)); have pc := hM2.set.c1; have pf := hM2.set.fz 1; obtain ⟨s0, s1, s2, s3, s4, s5, s6⟩ := HM2.out.tie; simp only [Nat.zero_add] at s0 s1 s2 s3 s4 s5 s6; obtain ⟨q0, q1, q2, q3, q4, q5, q6⟩ := hM2.tie; simp only [Nat.zero_add] at q0 q1 q2 q3 q4 q5 q6; clear hM2))
            go_roundw
            case rel =>
              have HTie : tieOf { s := xs, r := xr, o := xo, F := xF, T := xT } = { subj := nm (xs % 4), rel := rl 1, obj := nm (xo % 4), F := xF, T := xT, L := 0 } := by simp [tieOf, HR.out]
              have hrr := HR.out
              have hcc := HCO.out
              exact rel_of (binv_step HM2.out rfl rfl HX.out HL.out (fun m => by simp [sel]; omega) (six (sel_t (by simp [sel]; omega) HTie) (sel_f (by simp [sel]; omega)) (sel_f (by simp [sel]; omega)) (sel_f (by simp [sel]; omega)) (sel_t (by simp [sel]; omega) HTie) (sel_f (by simp [sel]; omega)))) (by omega) (by go_num) rfl rfl rfl rfl
            case measure => simp [RowKit.intOf]; omega
        · -- 2..3: other, posts; at the company: seats
          obtain ⟨hr1, hr2⟩ := hcls
          have b0 : ((r : Int) == 0) = false := by simp; omega
          have b1 : ((r : Int) == 1) = false := by simp; omega
          have b10 : ((r : Int) == 10) = false := by simp; omega
          have d7 : decide ((7 : Int) ≤ (r : Int)) = false := by simp; omega
          have d9 : decide ((r : Int) ≤ 9) = true := by simp; omega
          have d2 : decide ((2 : Int) ≤ (r : Int)) = true := by simp; omega
          have d6 : decide ((r : Int) ≤ 6) = true := by simp; omega
          have d1 : decide ((1 : Int) ≤ (r : Int)) = true := by simp; omega
          have d3 : decide ((r : Int) ≤ 3) = true := by simp; omega
          have nb1 : bs ≠ bt := Nat.ne_of_lt HMID.out.bsb
          have nb2 : bt ≠ bs := Nat.ne_of_gt HMID.out.bsb
          by_cases hco : xo % 4 = 0
          · have hst : ((nm (xo % 4)).toList == [99, 111]) = true := by rw [nm_co]; simp [hco]
            have HCO := hid hco
            clear hco
            obtain ⟨i, hi4, hxi⟩ : ∃ i, i < 4 ∧ xs % 4 = i := ⟨xs % 4, by omega, rfl⟩
            rw [hxi] at HMID q0
            have HXI := hid hxi
            clear hxi
            have hi0 : (0 : Int) ≤ (i : Int) := by omega
            have hi1 : (i : Int) < 4 := by omega
            go_wp2_with (first
              | (at_builtin; refine mid_append rfl (.tmp 55) (.tmp 57) rfl wB wc bs bt R { subj := nm (i), rel := rl r, obj := nm (xo % 4), F := xF, T := xT, L := 0 } _ _ _ HMID.out 1 (by decide) rfl rfl (HLEN.out 1 (by decide)) _ rfl ?_; intro y1 z1 w1 hM1; have HM1 := hid hM1; obtain ⟨q0, q1, q2, q3, q4, q5, q6⟩ := hM1.tie; simp only [Nat.zero_add] at q0 q1 q2 q3 q4 q5 q6; have p1 := HM1.out.set.c2; clear hM1)
              | (at_builtin; refine mid_append rfl (.tmp 82) (.tmp 84) rfl wB w1 bs bt _ _ _ _ _ HM1.out 5 (by decide) rfl rfl (HLEN.out 5 (by decide)) _ rfl ?_; intro y2 z2 w2 hM2; have HM2 := hid (hM2.setP (.slice (some ⟨y2, 0, none⟩) ((R 5).2.length + 1) z2)); have pc := hM2.set.c2; have pf := hM2.set.fz 2; obtain ⟨s0, s1, s2, s3, s4, s5, s6⟩ := HM2.out.tie; simp only [Nat.zero_add] at s0 s1 s2 s3 s4 s5 s6; obtain ⟨q0, q1, q2, q3, q4, q5, q6⟩ := hM2.tie; simp only [Nat.zero_add] at q0 q1 q2 q3 q4 q5 q6; clear hM2)
              | (at_builtin; refine mid_append' rfl (.tmp 98) (.tmp 100) rfl wB (w2.setCell ⟨bs, 2, none⟩ (.slice (some ⟨y2, 0, none⟩) ((R 5).2.length + 1) z2)) bs bt _ _ _ _ _ HM2.out 2 (by decide) w2.heap.size (by simp [World.setCell]) rfl rfl (HLEN.out 2 (by decide)) _ rfl ?_; intro y3 z3 w3 hM3; have HM3 := hid hM3; obtain ⟨q0, q1, q2, q3, q4, q5, q6⟩ := hM3.tie; simp only [Nat.zero_add] at q0 q1 q2 q3 q4 q5 q6; have pv := HM3.out.set.atV i hi4; have pvf := HM3.out.set.fz (3 + i); clear hM3)
              | (go_at_call 12; refine (idx_any i _ hi4).mono ?_; rintro e w9 ⟨rfl, rfl⟩))
            go_roundw
            case rel =>
              have HTie : tieOf { s := xs, r := xr, o := xo, F := xF, T := xT } = { subj := nm (i), rel := rl r, obj := nm (xo % 4), F := xF, T := xT, L := 0 } := by simp [tieOf, HR.out, HXI.out]
              have hrr := HR.out
              have hcc := HCO.out
              have hxx := HXI.out
              exact rel_of (binv_step (HM3.out.setV (f' := fun m => voteB m (ins.take k) || (i == m)) i hi4 (fun m => rfl)) rfl rfl HX.out HL.out (fun m => by rw [show sel 2 { s := xs, r := xr, o := xo, F := xF, T := xT } = true from by simp [sel]; omega, Bool.true_and, hxx]) (six (sel_f (by simp [sel]; omega)) (sel_t (by simp [sel]; omega) HTie) (sel_t (by simp [sel]; omega) HTie) (sel_f (by simp [sel]; omega)) (sel_f (by simp [sel]; omega)) (sel_t (by simp [sel]; omega) HTie))) (by omega) (by go_num) rfl rfl rfl rfl
            case measure => simp [RowKit.intOf]; omega
          · have hst : ((nm (xo % 4)).toList == [99, 111]) = false := by rw [nm_co]; simp [hco]
            have HCO := hid hco
            clear hco
            go_wp2_with (first
              | (at_builtin; refine mid_append rfl (.tmp 55) (.tmp 57) rfl wB wc bs bt R { subj := nm (xs % 4), rel := rl r, obj := nm (xo % 4), F := xF, T := xT, L := 0 } _ _ _ HMID.out 1 (by decide) rfl rfl (HLEN.out 1 (by decide)) _ rfl ?_; intro y1 z1 w1 hM1; have HM1 := hid hM1; obtain ⟨q0, q1, q2, q3, q4, q5, q6⟩ := hM1.tie; simp only [Nat.zero_add] at q0 q1 q2 q3 q4 q5 q6; have p1 := HM1.out.set.c2; clear hM1)
              | (at_builtin; refine mid_append rfl (.tmp 82) (.tmp 84) rfl wB w1 bs bt _ _ _ _ _ HM1.out 5 (by decide) rfl rfl (HLEN.out 5 (by decide)) _ rfl ?_; intro y2 z2 w2 hM2; have HM2 := hid (hM2.setP (.slice (some ⟨y2, 0, none⟩) ((R 5).2.length + 1) z2)); have pc := hM2.set.c2; have pf := hM2.set.fz 2; obtain ⟨s0, s1, s2, s3, s4, s5, s6⟩ := HM2.out.tie; simp only [Nat.zero_add] at s0 s1 s2 s3 s4 s5 s6; obtain ⟨q0, q1, q2, q3, q4, q5, q6⟩ := hM2.tie; simp only [Nat.zero_add] at q0 q1 q2 q3 q4 q5 q6; clear hM2))
            go_roundw
            case rel =>
              have HTie : tieOf { s := xs, r := xr, o := xo, F := xF, T := xT } = { subj := nm (xs % 4), rel := rl r, obj := nm (xo % 4), F := xF, T := xT, L := 0 } := by simp [tieOf, HR.out]
              have hrr := HR.out
              have hcc := HCO.out
              exact rel_of (binv_step HM2.out rfl rfl HX.out HL.out (fun m => by simp [sel]; omega) (six (sel_f (by simp [sel]; omega)) (sel_t (by simp [sel]; omega) HTie) (sel_f (by simp [sel]; omega)) (sel_f (by simp [sel]; omega)) (sel_f (by simp [sel]; omega)) (sel_t (by simp [sel]; omega) HTie))) (by omega) (by go_num) rfl rfl rfl rfl
            case measure => simp [RowKit.intOf]; omega
        · -- 4..6: other, posts
          obtain ⟨hr1, hr2⟩ := hcls
          have b0 : ((r : Int) == 0) = false := by simp; omega
          have b1 : ((r : Int) == 1) = false := by simp; omega
          have b10 : ((r : Int) == 10) = false := by simp; omega
          have d7 : decide ((7 : Int) ≤ (r : Int)) = false := by simp; omega
          have d9 : decide ((r : Int) ≤ 9) = true := by simp; omega
          have d2 : decide ((2 : Int) ≤ (r : Int)) = true := by simp; omega
          have d6 : decide ((r : Int) ≤ 6) = true := by simp; omega
          have d1 : decide ((1 : Int) ≤ (r : Int)) = true := by simp; omega
          have d3 : decide ((r : Int) ≤ 3) = false := by simp; omega
          go_wp2_with (first
            | (at_builtin; refine mid_append rfl (.tmp 55) (.tmp 57) rfl wB wc bs bt R { subj := nm (xs % 4), rel := rl r, obj := nm (xo % 4), F := xF, T := xT, L := 0 } _ _ _ HMID.out 1 (by decide) rfl rfl (HLEN.out 1 (by decide)) _ rfl ?_; intro y1 z1 w1 hM1; have HM1 := hid hM1; obtain ⟨q0, q1, q2, q3, q4, q5, q6⟩ := hM1.tie; simp only [Nat.zero_add] at q0 q1 q2 q3 q4 q5 q6; have p1 := HM1.out.set.c2; clear hM1)
            | (at_builtin; refine mid_append rfl (.tmp 82) (.tmp 84) rfl wB w1 bs bt _ _ _ _ _ HM1.out 5 (by decide) rfl rfl (HLEN.out 5 (by decide)) _ rfl ?_; intro y2 z2 w2 hM2; have HM2 := hid (hM2.setP (.slice (some ⟨y2, 0, none⟩) ((R 5).2.length + 1) z2)); have pc := hM2.set.c2; have pf := hM2.set.fz 2; obtain ⟨s0, s1, s2, s3, s4, s5, s6⟩ := HM2.out.tie; simp only [Nat.zero_add] at s0 s1 s2 s3 s4 s5 s6; obtain ⟨q0, q1, q2, q3, q4, q5, q6⟩ := hM2.tie; simp only [Nat.zero_add] at q0 q1 q2 q3 q4 q5 q6; clear hM2))
          go_roundw
          case rel =>
            have HTie : tieOf { s := xs, r := xr, o := xo, F := xF, T := xT } = { subj := nm (xs % 4), rel := rl r, obj := nm (xo % 4), F := xF, T := xT, L := 0 } := by simp [tieOf, HR.out]
            have hrr := HR.out
            exact rel_of (binv_step HM2.out rfl rfl HX.out HL.out (fun m => by simp [sel]; omega) (six (sel_f (by simp [sel]; omega)) (sel_t (by simp [sel]; omega) HTie) (sel_f (by simp [sel]; omega)) (sel_f (by simp [sel]; omega)) (sel_f (by simp [sel]; omega)) (sel_t (by simp [sel]; omega) HTie))) (by omega) (by go_num) rfl rfl rfl rfl
          case measure => simp [RowKit.intOf]; omega
        · -- 7..9: other, kin, turned
          obtain ⟨hr1, hr2⟩ := hcls
          have b0 : ((r : Int) == 0) = false := by simp; omega
          have b1 : ((r : Int) == 1) = false := by simp; omega
          have b10 : ((r : Int) == 10) = false := by simp; omega
          have d7 : decide ((7 : Int) ≤ (r : Int)) = true := by simp; omega
          have d9 : decide ((r : Int) ≤ 9) = true := by simp; omega
          have d2 : decide ((2 : Int) ≤ (r : Int)) = true := by simp; omega
          have d6 : decide ((r : Int) ≤ 6) = false := by simp; omega
          have d1 : decide ((1 : Int) ≤ (r : Int)) = true := by simp; omega
          have d3 : decide ((r : Int) ≤ 3) = false := by simp; omega
          go_wp2_with (first
            | (at_builtin; refine mid_append rfl (.tmp 55) (.tmp 57) rfl wB wc bs bt R { subj := nm (xs % 4), rel := rl r, obj := nm (xo % 4), F := xF, T := xT, L := 0 } _ _ _ HMID.out 1 (by decide) rfl rfl (HLEN.out 1 (by decide)) _ rfl ?_; intro y1 z1 w1 hM1; have HM1 := hid hM1; obtain ⟨q0, q1, q2, q3, q4, q5, q6⟩ := hM1.tie; simp only [Nat.zero_add] at q0 q1 q2 q3 q4 q5 q6; clear hM1)
            | (at_builtin; refine mid_append rfl (.tmp 65) (.tmp 67) rfl wB w1 bs bt _ _ _ _ _ HM1.out 3 (by decide) rfl rfl (HLEN.out 3 (by decide)) _ rfl ?_; intro y2 z2 w2 hM2; have HM2 := hid hM2; obtain ⟨q0, q1, q2, q3, q4, q5, q6⟩ := hM2.tie; simp only [Nat.zero_add] at q0 q1 q2 q3 q4 q5 q6; have p2 := HM2.out.set.c1; clear hM2)
            | (at_builtin; refine mid_append rfl (.tmp 70) (.tmp 72) rfl wB w2 bs bt _ _ _ _ _ HM2.out 4 (by decide) rfl rfl (HLEN.out 4 (by decide)) _ rfl ?_; intro y3 z3 w3 hM3; have HM3 := hid (hM3.setT (.slice (some ⟨y3, 0, none⟩) ((R 4).2.length + 1) z3)); have pc := hM3.set.c1; have pf := hM3.set.fz 1; obtain ⟨s0, s1, s2, s3, s4, s5, s6⟩ := HM3.out.tie; simp only [Nat.zero_add] at s0 s1 s2 s3 s4 s5 s6; obtain ⟨q0, q1, q2, q3, q4, q5, q6⟩ := hM3.tie; simp only [Nat.zero_add] at q0 q1 q2 q3 q4 q5 q6; clear hM3))
          go_roundw
          case rel =>
            have HTie : tieOf { s := xs, r := xr, o := xo, F := xF, T := xT } = { subj := nm (xs % 4), rel := rl r, obj := nm (xo % 4), F := xF, T := xT, L := 0 } := by simp [tieOf, HR.out]
            have hrr := HR.out
            exact rel_of (binv_step HM3.out rfl rfl HX.out HL.out (fun m => by simp [sel]; omega) (six (sel_f (by simp [sel]; omega)) (sel_t (by simp [sel]; omega) HTie) (sel_f (by simp [sel]; omega)) (sel_t (by simp [sel]; omega) HTie) (sel_t (by simp [sel]; omega) HTie) (sel_f (by simp [sel]; omega)))) (by omega) (by go_num) rfl rfl rfl rfl
          case measure => simp [RowKit.intOf]; omega
    · have hkn2 : k = n := by omega
      subst hkn2
      clear hkn hk
      have HOKS := hid (fun x (hx : x ∈ ins) => show x.ok from by
        obtain ⟨j, hj, rfl⟩ := List.getElem_of_mem hx
        exact (HI.out j _ (List.getElem?_eq_getElem hj)).1)
      have hta : ins.take k = ins := List.take_of_length_le (by rw [HN.out]; exact Nat.le_refl _)
      rw [hta] at HINV
      have HTA := hid (fun j (hj : j < 6) => show TiesAt wr (R j).1 (rowL j ins) from by
        rw [← HINV.out.lists j hj]; exact ties_of_owns (HINV.out.rows.own j hj))
      have HLN := hid (fun j => show (rowL j ins).length ≤ 256 from by
        have h1 := rowL_len j ins
        have h2 := HN.out
        omega)
      clear hta
      have t0 := HINV.out.set.c0
      have t1 := HINV.out.set.c1
      have t2 := HINV.out.set.c2
      have t3 := HINV.out.set.v0
      have t4 := HINV.out.set.v1
      have t5 := HINV.out.set.v2
      have t6 := HINV.out.set.v3
      have hf0 := HINV.out.set.fz 0
      obtain ⟨a0, k0, e0, _⟩ := HTA.out 0 (by decide)
      obtain ⟨a1, k1, e1, _⟩ := HTA.out 1 (by decide)
      obtain ⟨a2, k2, e2, _⟩ := HTA.out 2 (by decide)
      obtain ⟨a3, k3, e3, _⟩ := HTA.out 3 (by decide)
      obtain ⟨a4, k4, e4, _⟩ := HTA.out 4 (by decide)
      obtain ⟨a5, k5, e5, _⟩ := HTA.out 5 (by decide)
      have HT0 := hid (HTA.out 0 (by decide))
      have HT1 := hid (HTA.out 1 (by decide))
      have HT2 := hid (HTA.out 2 (by decide))
      have HT3 := hid (HTA.out 3 (by decide))
      have HT4 := hid (HTA.out 4 (by decide))
      have HT5 := hid (HTA.out 5 (by decide))
      rw [e0] at HT0
      rw [e1] at HT1
      rw [e2] at HT2
      rw [e3] at HT3
      rw [e4] at HT4
      rw [e5] at HT5
      rw [e0, e1, e2, e3]
      have HE1 := hid e1
      have HE2 := hid e2
      clear e0 e1 e2 e3
      have HRB := hid (show wr.heap[w.heap.size]? = some (.cells #[.pointer none, .slice none 0 0, .slice none 0 0, .bool false, .bool false, .bool false, .bool false] 27) from by
        rw [HINV.out.below.block w.heap.size (by rw [HWB.out]; simp), HWB.out]; exact heap_alloc_new w _)
      go_wp2_with fail
      refine (spans_two wr _ _ _ _ _ _ rfl _ rfl HT0.out HT1.out (by have h0 := HLN.out 0; have h1 := HLN.out 1; omega) (fun t ht => by
        rcases List.mem_append.1 ht with h | h
        · exact rowL_T _ _ HOKS.out t h
        · exact rowL_T _ _ HOKS.out t h)).mono ?_
      rintro e1 u1 ⟨g, c, rfl, hd1, hg1, hl1, hb1, hc1⟩
      have HD1 := hid hd1
      have HB1 := hid hb1
      have HT0' := hid (HT0.out.later (w' := u1) (fun k hk => (hb1.block k (by simp; omega)).trans (Below.heap_alloc _ _ k hk)))
      clear hd1 hb1
      go_wp2_with fail
      refine (spans_one u1 _ _ _ _ rfl _ rfl HT0'.out (by have h0 := HLN.out 0; omega) (rowL_T _ _ HOKS.out)).mono ?_
      rintro e2 u2 ⟨g2, c2, rfl, hd2, hg2, hl2, hb2, hc2⟩
      have HD2 := hid hd2
      have HB2 := hid hb2
      clear hd2 hb2
      go_wp2_with fail
      have HT3' := hid (show TiesAt (u2.alloc (.cells #[.slice none 0 0, .slice (some ⟨g2, 0, none⟩) (spansL (rowL 0 ins)).length c2, .nilFunc, .slice none 0 0, .int .i64 0] 69)) _ (rowL 3 ins) from HT3.out.later (fun k hk => (Below.heap_alloc _ _ k (by have h1 := HB1.out.size; have h2 := HB2.out.size; simp at h1 h2; omega)).trans ((HB2.out.block k (by have h1 := HB1.out.size; simp at h1 ⊢; omega)).trans ((Below.heap_alloc _ _ k (by have h1 := HB1.out.size; simp at h1; omega)).trans ((HB1.out.block k (by simp; omega)).trans (Below.heap_alloc _ _ k hk))))))
      refine (spans_one _ _ _ _ _ rfl _ (by simp) HT3'.out (by have h0 := HLN.out 3; omega) (rowL_T _ _ HOKS.out)).mono ?_
      rintro e3 u3 ⟨g3, c3, rfl, hd3, hg3, hl3, hb3, hc3⟩
      have HD3 := hid hd3
      have HB3 := hid hb3
      clear hd3 hb3
      have HSZ := hid (show wr.heap.size < u1.heap.size ∧ u1.heap.size < u2.heap.size ∧ u2.heap.size + 1 < u3.heap.size from by
        have h1 := HB1.out.size; have h2 := HB2.out.size; have h3 := HB3.out.size; simp at h1 h2 h3; omega)
      have HK1 := hid (show ∀ k, k < wr.heap.size → u1.heap[k]? = wr.heap[k]? from fun k hk => (HB1.out.block k (by simp; omega)).trans (Below.heap_alloc _ _ k hk))
      have HK2 := hid (show ∀ k, k < u1.heap.size → u2.heap[k]? = u1.heap[k]? from fun k hk => (HB2.out.block k (by simp; omega)).trans (Below.heap_alloc _ _ k hk))
      have HK3 := hid (show ∀ k, k < u2.heap.size → u3.heap[k]? = u2.heap[k]? from fun k hk => (HB3.out.block k (by simp; omega)).trans ((Below.heap_alloc _ _ k (by simp; omega)).trans (Below.heap_alloc _ _ k hk)))
      have HKW := hid (show ∀ k, k < wr.heap.size → u3.heap[k]? = wr.heap[k]? from fun k hk => by
        have h := HSZ.out
        exact (HK3.out k (by omega)).trans ((HK2.out k (by omega)).trans (HK1.out k hk)))
      have HBO := hid (show u3.heap[u2.heap.size]? = some (.cells #[.slice none 0 0, .slice (some ⟨g2, 0, none⟩) (spansL (rowL 0 ins)).length c2, .nilFunc, .slice none 0 0, .int .i64 0] 69) from by
        rw [HB3.out.block u2.heap.size (by simp; omega)]; exact (Below.heap_alloc _ _ _ (by simp)).trans (heap_alloc_new _ _))
      clear t0 t1 t2 t3 t4 t5 t6 hf0
      have hset := HINV.out.set.kept (HKW.out bs HINV.out.lt)
      have t0 := hset.c0
      have t1 := hset.c1
      have t2 := hset.c2
      have t3 := hset.v0
      have t4 := hset.v1
      have t5 := hset.v2
      have t6 := hset.v3
      have hf0 := hset.fz 0
      clear hset
      have HE4 := hid e4
      have HE5 := hid e5
      rw [e4] at t1
      rw [e5] at t2
      clear e4 e5
      have hrb : u3.heap[w.heap.size]? = _ := (HKW.out w.heap.size (Nat.lt_of_lt_of_le (Nat.lt_of_lt_of_le (Nat.lt_succ_self _) (Nat.le_of_eq HBS.out)) (Nat.le_of_lt HINV.out.lt))).trans HRB.out
      have r0 : u3.cell? ⟨w.heap.size, 0, none⟩ = some (.pointer none) := by simp [World.cell?, hrb]
      have r1 : u3.cell? ⟨w.heap.size, 1, none⟩ = some (.slice none 0 0) := by simp [World.cell?, hrb]
      have r2 : u3.cell? ⟨w.heap.size, 2, none⟩ = some (.slice none 0 0) := by simp [World.cell?, hrb]
      have r3 : u3.cell? ⟨w.heap.size, 3, none⟩ = some (.bool false) := by simp [World.cell?, hrb]
      have r4 : u3.cell? ⟨w.heap.size, 4, none⟩ = some (.bool false) := by simp [World.cell?, hrb]
      have r5 : u3.cell? ⟨w.heap.size, 5, none⟩ = some (.bool false) := by simp [World.cell?, hrb]
      have r6 : u3.cell? ⟨w.heap.size, 6, none⟩ = some (.bool false) := by simp [World.cell?, hrb]
      have rf : ∀ i, u3.frozen? ⟨w.heap.size, i, none⟩ = false := fun i => by simp [World.frozen?, hrb]
      have rf0 := rf 0
      have rf1 := rf 1
      have rf2 := rf 2
      have rf3 := rf 3
      have rf4 := rf 4
      have rf5 := rf 5
      have rf6 := rf 6
      clear hrb rf
      have l1 : bs < u3.heap.size := by have h1 := HSZ.out; have h2 := HINV.out.lt; omega
      have l2 : w.heap.size < u3.heap.size := by have h1 := HBS.out; omega
      have nb1 : bs ≠ w.heap.size := by have := HBS.out; omega
      have nb2 : w.heap.size ≠ bs := by have := HBS.out; omega
      go_wp2_with fail
      have HOWN := hid (fun j (hj : j < 6) => fun k hk => (⟨((HINV.out.rows.own j hj).lt k hk).1, ((HINV.out.rows.own j hj).lt k hk).2⟩ : bs < k ∧ k < wr.heap.size))
      refine bodyPost_ret (v := .agg #[.pointer (some ⟨u3.heap.size + 1, 0, none⟩), .slice a4 (rowL 4 ins).length k4, .slice a5 (rowL 5 ins).length k5, .bool (voteB 0 ins), .bool (voteB 1 ins), .bool (voteB 2 ins), .bool (voteB 3 ins)]) (by simp [results, Ybad.results6, go_sem, r0, r1, r2, r3, r4, r5, r6, l2, nb1, nb2]) rfl ?_
      have hend := build_end wr u1 u2 u3 ((((((((u3.setCell ⟨bs, 0, none⟩ (.pointer (some ⟨u3.heap.size + 1, 0, none⟩))).setCell ⟨w.heap.size, 0, none⟩ (.pointer (some ⟨u3.heap.size + 1, 0, none⟩))).setCell ⟨w.heap.size, 1, none⟩ (.slice a4 (rowL 4 ins).length k4)).setCell ⟨w.heap.size, 2, none⟩ (.slice a5 (rowL 5 ins).length k5)).setCell ⟨w.heap.size, 3, none⟩ (.bool (voteB 0 ins))).setCell ⟨w.heap.size, 4, none⟩ (.bool (voteB 1 ins))).setCell ⟨w.heap.size, 5, none⟩ (.bool (voteB 2 ins))).setCell ⟨w.heap.size, 6, none⟩ (.bool (voteB 3 ins))) _ ins bs (.slice a0 (rowL 0 ins).length k0) _ _ (.slice a4 (rowL 4 ins).length k4) (.slice a5 (rowL 5 ins).length k5) g c g2 c2 g3 c3 rfl (by simp [World.setCell]) (fun k hk => by
        have h1 : k ≠ bs := by omega
        have h2 : k ≠ w.heap.size := by have := HBS.out; omega
        rw [Below.heap_setCell _ _ _ k h2, Below.heap_setCell _ _ _ k h2, Below.heap_setCell _ _ _ k h2, Below.heap_setCell _ _ _ k h2, Below.heap_setCell _ _ _ k h2, Below.heap_setCell _ _ _ k h2, Below.heap_setCell _ _ _ k h2, Below.heap_setCell _ _ _ k h1])
        HSZ.out HINV.out.lt HK1.out HK2.out HK3.out HBO.out HD1.out (by simp at hg1; omega) hl1 HD2.out (by simp at hg2; omega) hl2 hc2 HD3.out (by simp at hg3; omega) hl3 hc3 HT1.out HT2.out HT4.out HT5.out (by
          rintro v (rfl | rfl | rfl | rfl)
          · rw [← HE1.out]; exact HOWN.out 1 (by decide)
          · rw [← HE2.out]; exact HOWN.out 2 (by decide)
          · rw [← HE4.out]; exact HOWN.out 4 (by decide)
          · rw [← HE5.out]; exact HOWN.out 5 (by decide))
      have hw0 : Below w.heap.size w wr := (by rw [HWB.out]; exact ((Below.refl _ _).alloc (Nat.le_refl _) _) : Below w.heap.size w wB).trans (HINV.out.below.mono (by rw [HWB.out]; simp))
      have hlw : w.heap.size < wr.heap.size := by have h1 := HBS.out; have h2 := HINV.out.lt; omega
      have hw3 : Below w.heap.size w u3 := ⟨HB3.out.os.trans (HB2.out.os.trans (HB1.out.os.trans hw0.os)), HB3.out.tape.trans (HB2.out.tape.trans (HB1.out.tape.trans hw0.tape)), HB3.out.output.trans (HB2.out.output.trans (HB1.out.output.trans hw0.output)), by have h1 := HSZ.out; omega, fun k hk => (HKW.out k (by omega)).trans (hw0.block k hk)⟩
      have hbw : w.heap.size ≤ bs := by have h1 := HBS.out; omega
      exact ⟨_, _, _, rfl, hend.1, hend.2.1, hend.2.2, ((((((((((hw3.setCell (p := ⟨bs, 0, none⟩) hbw _).setCell (p := ⟨w.heap.size, 0, none⟩) (Nat.le_refl _) _).setCell (p := ⟨w.heap.size, 1, none⟩) (Nat.le_refl _) _).setCell (p := ⟨w.heap.size, 2, none⟩) (Nat.le_refl _) _).setCell (p := ⟨w.heap.size, 3, none⟩) (Nat.le_refl _) _).setCell (p := ⟨w.heap.size, 4, none⟩) (Nat.le_refl _) _).setCell (p := ⟨w.heap.size, 5, none⟩) (Nat.le_refl _) _).setCell (p := ⟨w.heap.size, 6, none⟩) (Nat.le_refl _) _).alloc (by simp [World.setCell]; omega) _).alloc (by simp [World.setCell]; omega) _)⟩
end Go.Proofs.YbulkagqaDoor
