import Derived.Test.YbulkagqaDoorF4
namespace Go.Proofs.YbulkagqaDoor
open Go.RowKit Go.Lib
set_option linter.unusedVariables false
set_option linter.unusedSimpArgs false

/-! ### The plain lists of newBreaks -/
def fsL (ins : List InD) : List Int := spansL (rowL 0 ins ++ rowL 1 ins)
def f1L (ins : List InD) : List Int := spansL (rowL 0 ins)
def f2L (ins : List InD) : List Int := spansL (rowL 3 ins)
def dsL (ins : List InD) : List Int := (f1L ins).drop 1 ++ (f2L ins).drop 1
def isP (x : InD) : Bool := decide (2 ≤ x.r % 11 ∧ x.r % 11 ≤ 6)
def evOf (x : InD) : List (InD × Int) := if isP x = true then (turnsL x.F x.T).map (fun d => (x, d)) else []
def evs (O : List InD) : List (InD × Int) := O.flatMap evOf
def atL (fs : List Int) (E : List (InD × Int)) (j : Nat) : List Int := (E.filter fun e => e.1.o % 4 == j).map fun e => (ixN fs e.2 : Int)
def votL (fs : List Int) (vt : Nat → Bool) (E : List (InD × Int)) : List (Nat × Nat) := (E.filter fun e => vt (e.1.s % 4)).map fun e => (ixN fs e.2, e.1.o % 4)
/-- Who votes: as the seats say. -/
def vtL (S : List InD) (i : Nat) : Bool := S.any fun x => x.s % 4 == i
def vtF (S : List InD) (i : Nat) : Option Value := if vtL S i = true then some (.bool true) else none

theorem firstsL_ge {ins : List InD} (hok : ∀ x ∈ ins, x.ok) (ts : List TieD) (hts : ∀ t ∈ ts, ∃ x ∈ ins, t = tieOf x) : ∀ d ∈ firstsL ts, -2147483648 ≤ d := by
  intro d hd
  simp only [firstsL, List.mem_cons, turnsAll, List.mem_flatMap] at hd
  rcases hd with rfl | ⟨t, ht, hdt⟩
  · decide
  · obtain ⟨x, hx, rfl⟩ := hts t ht
    have h := hok x hx
    simp only [turnsL, tieOf, List.mem_append] at hdt
    have h1 := h.F0
    have h2 := h.T0
    rcases hdt with hdt | hdt
    · by_cases e : x.F = -2147483648
      · simp [e] at hdt
      · simp [e] at hdt; omega
    · by_cases e : x.T = 2147483647
      · simp [e] at hdt
      · simp [e] at hdt; omega
theorem rowL_of (j : Nat) (ins : List InD) : ∀ t ∈ rowL j ins, ∃ x ∈ ins, t = tieOf x := by
  intro t ht
  simp only [rowL, List.mem_map, List.mem_filter] at ht
  obtain ⟨x, ⟨hx, _⟩, rfl⟩ := ht
  exact ⟨x, hx, rfl⟩
theorem spansL_len (ts : List TieD) : (spansL ts).length ≤ 2 * ts.length + 1 := by
  have h1 := ddSort_len (firstsL ts)
  have h2 := turnsAll_len ts
  have h3 : (firstsL ts).length = (turnsAll ts).length + 1 := by simp [firstsL]
  unfold spansL; omega
theorem spansL_open (ts : List TieD) : (-2147483648 : Int) ∈ spansL ts := by
  unfold spansL; rw [ddSort_mem]; simp [firstsL]
theorem spansL_pos (ts : List TieD) : 0 < (spansL ts).length := List.length_pos_of_mem (spansL_open ts)
theorem spansL_pw (ts : List TieD) : (spansL ts).Pairwise (· < ·) := ddSort_pairwise _
theorem dsL_ge {ins : List InD} (hok : ∀ x ∈ ins, x.ok) : ∀ d ∈ dsL ins, -2147483648 ≤ d := by
  intro d hd
  simp only [dsL, List.mem_append] at hd
  rcases hd with hd | hd
  · have := List.mem_of_mem_drop hd
    unfold f1L spansL at this
    rw [ddSort_mem] at this
    exact firstsL_ge hok _ (rowL_of 0 ins) d this
  · have := List.mem_of_mem_drop hd
    unfold f2L spansL at this
    rw [ddSort_mem] at this
    exact firstsL_ge hok _ (rowL_of 3 ins) d this
theorem lens {ins : List InD} (hn : ins.length ≤ 256) : (fsL ins).length ≤ 1025 ∧ (f1L ins).length ≤ 513 ∧ (f2L ins).length ≤ 513 ∧ (dsL ins).length ≤ 1024 := by
  have a0 := rowL_len 0 ins
  have a1 := rowL_len 1 ins
  have a3 := rowL_len 3 ins
  have h0 := spansL_len (rowL 0 ins ++ rowL 1 ins)
  have h1 := spansL_len (rowL 0 ins)
  have h2 := spansL_len (rowL 3 ins)
  rw [List.length_append] at h0
  unfold dsL fsL f1L f2L
  simp only [List.length_append, List.length_drop]
  omega

/-! ### The loops' steps -/
abbrev Rel1 (w1 wr : World) (bk bm N : Nat) (a : Option Addr) (ins : List InD) (s38 : Value) : Prop :=
  ∃ (k : Nat) (R : Nat → Row), k ≤ N ∧ s38 = .int .i64 k ∧ NB w1 wr bk bm R (R 0).v (R 5).v (fun _ => none) ∧ NL R (((dsL ins).take k).map (fun d => (ixN (fsL ins) d : Int))) (fun _ => []) [] (fun _ => none) ∧ RowI wr (bk + 1) a (dsL ins)

theorem loop1_step {w1 wr w3 : World} {bk bm N k : Nat} {a : Option Addr} {ins : List InD} {R : Nat → Row} {d : Int} {v s38 : Value} (hNB : NB w1 w3 bk bm (upd R 0 ⟨v, (R 0).n + 1, (R 0).cs ++ [.int .i64 (ixN (fsL ins) d : Nat)]⟩) v (R 5).v (fun _ => none))
    (hNL : NL R (((dsL ins).take k).map (fun d => (ixN (fsL ins) d : Int))) (fun _ => []) [] (fun _ => none)) (hRI : RowI wr (bk + 1) a (dsL ins)) (hB : Beside wr w3 bk bm) (hd : (dsL ins)[k]? = some d) (hk : k < N) (h38 : s38 = .int .i64 ((k + 1 : Nat) : Int)) : Rel1 w1 w3 bk bm N a ins s38 := by
  refine ⟨k + 1, _, hk, h38, hNB, ?_, hRI.beside hB (by omega) hNB.lt⟩
  rw [take_snoc _ k d hd, List.map_append]
  exact hNL.all v _

/-- The ties of a row, as inputs. -/
def selX (j : Nat) (ins : List InD) : List InD := ins.filter (sel j)
theorem rowL_eq (j : Nat) (ins : List InD) : rowL j ins = (selX j ins).map tieOf := rfl
theorem selX_len (j : Nat) (ins : List InD) : (selX j ins).length = (rowL j ins).length := by simp [rowL_eq]
theorem selX_ok {j : Nat} {ins : List InD} (hok : ∀ x ∈ ins, x.ok) : ∀ x ∈ selX j ins, x.ok := fun x hx => hok x (List.mem_filter.1 hx).1

theorem vtF_snoc (S : List InD) (k : Nat) (x : InD) (hx : S[k]? = some x) : vtF (S.take (k + 1)) = upd (vtF (S.take k)) (x.s % 4) (some (.bool true)) := by
  funext i
  rw [take_snoc S k x hx]
  unfold vtF vtL upd
  by_cases e : i = x.s % 4
  · simp [e]
  · have e2 : ¬ x.s % 4 = i := fun h => e h.symm
    simp [e, e2]

abbrev Rel2 (w1 wr : World) (bk bm bv N : Nat) (R : Nat → Row) (S : List InD) (s57 : Value) : Prop :=
  ∃ (k : Nat), k ≤ N ∧ s57 = .int .i64 k ∧ NB w1 wr bk bm R (R 0).v (R 5).v (fun _ => none) ∧ MapIs wr bv (vtF (S.take k))

theorem loop2_step {w1 wr w4 : World} {bk bm bv N k : Nat} {R : Nat → Row} {S : List InD} {x : InD} {o : Obj} {s57 : Value} (hNB : NB w1 wr bk bm R (R 0).v (R 5).v (fun _ => none)) (hM : MapIs wr bv (vtF (S.take k))) (hx : S[k]? = some x) (hbv : bk < bv)
    (hM4 : MapIs w4 bv (upd (vtF (S.take k)) (x.s % 4) (some (.bool true)))) (hg : (wr.alloc o).grownBy w4 (some bv)) (hk : k < N) (h57 : s57 = .int .i64 ((k + 1 : Nat) : Int)) : Rel2 w1 w4 bk bm bv N R S s57 := by
  have h1 : NB w1 (wr.alloc o) bk bm R (R 0).v (R 5).v (fun _ => none) := hNB.later ((Below.refl _ _).alloc (Nat.le_refl _) _)
  have h2 : MapIs (wr.alloc o) bv (vtF (S.take k)) := hM.kept (Below.heap_alloc _ _ _ hM.lt)
  obtain ⟨ob, h3, h4⟩ := h2.noRow
  exact ⟨k + 1, hk, h57, h1.grown h3 h4 hbv hg, by rw [vtF_snoc S k x hx]; exact hM4⟩

theorem zero29 (w : World) : (zeroValue 29).run Ybad.prog w = .ok (.slice none 0 0) w := by kernel_rfl
theorem zero4 (w : World) : (zeroValue 4).run Ybad.prog w = .ok (.bool false) w := by kernel_rfl

theorem turnsC (s0 s1 s2 sh : Value) (F T L : Int) (W : World) (hT0 : -2147483648 ≤ T) (hT1 : T ≤ 2147483647) (tu : List Int) (htu : tu = turnsL F T) :
    Calls Ybad.prog 19 #[.agg #[s0, s1, s2, sh, .int .i32 F, .int .i32 T, .int .i64 L]] W fun e w' => ∃ a cap, e = .returned (.slice a tu.length cap) ∧ RowI w' W.heap.size a tu ∧ Below W.heap.size W w' := by
  subst htu
  refine (turns_any s0 s1 s2 sh F T L W hT0 hT1).mono fun e w' ⟨v, he, hown, hb⟩ => ?_
  obtain ⟨a, cap, rfl, hr⟩ := row_of_owns hown
  exact ⟨a, cap, he, hr, hb⟩

theorem atL_snoc (fs : List Int) (E : List (InD × Int)) (x : InD) (d : Int) : atL fs (E ++ [(x, d)]) = upd (atL fs E) (x.o % 4) (atL fs E (x.o % 4) ++ [(ixN fs d : Int)]) := by
  funext j
  unfold upd
  by_cases e : j = x.o % 4
  · subst e; simp [atL, List.filter_append]
  · have e2 : ¬ x.o % 4 = j := fun h => e h.symm
    simp [atL, List.filter_append, e, e2]
theorem votL_snoc (fs : List Int) (vt : Nat → Bool) (E : List (InD × Int)) (x : InD) (d : Int) : votL fs vt (E ++ [(x, d)]) = votL fs vt E ++ (if vt (x.s % 4) = true then [(ixN fs d, x.o % 4)] else []) := by
  by_cases e : vt (x.s % 4) = true
  · simp [votL, List.filter_append, e]
  · simp [votL, List.filter_append, e]
theorem atL_len (fs : List Int) (E : List (InD × Int)) (j : Nat) : (atL fs E j).length ≤ E.length := by
  simp [atL]; exact List.length_filter_le _ _
theorem votL_len (fs : List Int) (vt : Nat → Bool) (E : List (InD × Int)) : (votL fs vt E).length ≤ E.length := by
  simp [votL]; exact List.length_filter_le _ _
theorem evOf_len (x : InD) : (evOf x).length ≤ 2 := by
  unfold evOf
  split
  · simp; exact turnsL_len _ _
  · simp
theorem evs_len : ∀ (O : List InD), (evs O).length ≤ 2 * O.length
  | [] => by simp [evs]
  | x :: r => by
    have h1 := evs_len r
    have h2 := evOf_len x
    have e : evs (x :: r) = evOf x ++ evs r := by simp [evs]
    rw [e, List.length_append, List.length_cons]; omega
theorem evs_snoc (O : List InD) (k : Nat) (x : InD) (hx : O[k]? = some x) : evs (O.take (k + 1)) = evs (O.take k) ++ evOf x := by
  rw [take_snoc O k x hx]; simp [evs]
theorem ixN_le (fs : List Int) (d : Int) : ixN fs d ≤ fs.length := by
  have := List.countP_le_length (p := fun y => decide (y ≤ d)) (l := fs)
  unfold ixN; omega
theorem enc_eq (fs : List Int) (d : Int) (o : Nat) (h : fs.length ≤ 1025) : encT (ixN fs d, o) = [.int .i64 (ixN fs d : Nat), .string (nm o)] := by
  have h1 := ixN_le fs d
  have : bd (ixN fs d) = ixN fs d := by unfold bd; omega
  simp [encT, this]

abbrev Rel3 (w1 wr : World) (bk bm bv N : Nat) (ins : List InD) (L0 : List Int) (s70 : Value) : Prop :=
  ∃ (k : Nat) (R : Nat → Row) (f : Nat → Option Value), k ≤ N ∧ s70 = .int .i64 k ∧ NB w1 wr bk bm R (R 0).v (R 5).v f ∧ NL R L0 (atL (fsL ins) (evs ((selX 1 ins).take k))) (votL (fsL ins) (vtL (selX 2 ins)) (evs ((selX 1 ins).take k))) f ∧ MapIs wr bv (vtF (selX 2 ins))

abbrev Rel4 (w1 wr : World) (bk bm bv bt N : Nat) (ins : List InD) (L0 : List Int) (E : List (InD × Int)) (x : InD) (tu : List Int) (a : Option Addr) (tc : Array Value) (s81 : Value) : Prop :=
  ∃ (j : Nat) (R : Nat → Row) (f : Nat → Option Value), j ≤ N ∧ s81 = .int .i64 j ∧ NB w1 wr bk bm R (R 0).v (R 5).v f ∧ NL R L0 (atL (fsL ins) (E ++ (tu.take j).map fun d => (x, d))) (votL (fsL ins) (vtL (selX 2 ins)) (E ++ (tu.take j).map fun d => (x, d))) f ∧ MapIs wr bv (vtF (selX 2 ins)) ∧ RowI wr (bk + 1) a tu ∧ wr.heap[bt]? = some (.cells tc 53)

/-- Between the store into the map and the voters. -/
abbrev Mid4 (w1 wr : World) (bk bm bv bt : Nat) (ins : List InD) (L0 : List Int) (E : List (InD × Int)) (x : InD) (d : Int) (tu : List Int) (a : Option Addr) (tc : Array Value) (R : Nat → Row) (f : Nat → Option Value) : Prop :=
  NB w1 wr bk bm R (R 0).v (R 5).v f ∧ NL R L0 (atL (fsL ins) (E ++ [(x, d)])) (votL (fsL ins) (vtL (selX 2 ins)) E) f ∧ MapIs wr bv (vtF (selX 2 ins)) ∧ RowI wr (bk + 1) a tu ∧ wr.heap[bt]? = some (.cells tc 53)

theorem at_step {w1 wr w3 w4 : World} {bk bm bv bt : Nat} {ins : List InD} {L0 : List Int} {E : List (InD × Int)} {x : InD} {d : Int} {tu : List Int} {a : Option Addr} {tc : Array Value} {R : Nat → Row} {f : Nat → Option Value} {v : Value} {o : Nat} (ho : x.o % 4 = o) (ho4 : o < 4)
    (hNL : NL R L0 (atL (fsL ins) E) (votL (fsL ins) (vtL (selX 2 ins)) E) f) (hM : MapIs wr bv (vtF (selX 2 ins))) (hRI : RowI wr (bk + 1) a tu) (hT : wr.heap[bt]? = some (.cells tc 53)) (hbv : bk < bv) (hbt : bk < bt)
    (hNB3 : NB w1 w3 bk bm (upd R (o + 1) ⟨v, (R (o + 1)).n + 1, (R (o + 1)).cs ++ [.int .i64 (ixN (fsL ins) d : Nat)]⟩) (R 0).v (R 5).v f) (hB : Beside wr w3 bk bm) (hM4 : MapIs w4 bm (upd f o (some v))) (hg : w3.grownBy w4 (some bm)) :
    Mid4 w1 w4 bk bm bv bt ins L0 E x d tu a tc (upd R (o + 1) ⟨v, (R (o + 1)).n + 1, (R (o + 1)).cs ++ [.int .i64 (ixN (fsL ins) d : Nat)]⟩) (upd f o (some v)) := by
  subst ho
  have hB2 : Beside wr w4 bk bm := hB.trans (Beside.grown hg)
  have h0 : (upd R (x.o % 4 + 1) ⟨v, (R (x.o % 4 + 1)).n + 1, (R (x.o % 4 + 1)).cs ++ [.int .i64 (ixN (fsL ins) d : Nat)]⟩ 0) = R 0 := upd_other _ _ _ _ (by omega)
  have h5 : (upd R (x.o % 4 + 1) ⟨v, (R (x.o % 4 + 1)).n + 1, (R (x.o % 4 + 1)).cs ++ [.int .i64 (ixN (fsL ins) d : Nat)]⟩ 5) = R 5 := upd_other _ _ _ _ (by omega)
  refine ⟨?_, ?_, hM.beside hB2 hbv hNB3.lt, hRI.beside hB2 (by omega) hNB3.lt, hB2.keep bt _ hT ⟨by decide, by decide⟩ (by omega) (by have := hNB3.lt; omega)⟩
  · rw [h0, h5]; exact hNB3.putm hg hM4
  · rw [atL_snoc]
    exact hNL.at' (x.o % 4) ho4 v _ (by simp) _ _ (by simp [hNL.ra _ ho4]) (by simp [hNL.ra _ ho4])

theorem take_ev (E : List (InD × Int)) (tu : List Int) (x : InD) (j : Nat) (d : Int) (hd : tu[j]? = some d) : E ++ (tu.take (j + 1)).map (fun d => (x, d)) = (E ++ (tu.take j).map fun d => (x, d)) ++ [(x, d)] := by
  rw [take_snoc tu j d hd]; simp

theorem loop4_no {w1 wr : World} {bk bm bv bt N j : Nat} {ins : List InD} {L0 : List Int} {E : List (InD × Int)} {x : InD} {d : Int} {tu : List Int} {a : Option Addr} {tc : Array Value} {R : Nat → Row} {f : Nat → Option Value} {s81 : Value}
    (h : Mid4 w1 wr bk bm bv bt ins L0 (E ++ (tu.take j).map fun d => (x, d)) x d tu a tc R f) (hv : vtL (selX 2 ins) (x.s % 4) = false) (hd : tu[j]? = some d) (hj : j < N) (hs : s81 = .int .i64 ((j + 1 : Nat) : Int)) : Rel4 w1 wr bk bm bv bt N ins L0 E x tu a tc s81 := by
  obtain ⟨h1, h2, h3, h4, h5⟩ := h
  refine ⟨j + 1, R, f, hj, hs, h1, ?_, h3, h4, h5⟩
  rw [take_ev E tu x j d hd, votL_snoc, if_neg (by simp [hv]), List.append_nil]
  exact h2

theorem loop4_yes {w1 wr w3 : World} {bk bm bv bt N j : Nat} {ins : List InD} {L0 : List Int} {E : List (InD × Int)} {x : InD} {d : Int} {tu : List Int} {a : Option Addr} {tc : Array Value} {R : Nat → Row} {f : Nat → Option Value} {v s81 : Value} {o : Nat} (ho : x.o % 4 = o) (hfs : (fsL ins).length ≤ 1025)
    (h : Mid4 w1 wr bk bm bv bt ins L0 (E ++ (tu.take j).map fun d => (x, d)) x d tu a tc R f) (hv : vtL (selX 2 ins) (x.s % 4) = true) (hd : tu[j]? = some d) (hj : j < N) (hs : s81 = .int .i64 ((j + 1 : Nat) : Int)) (hbv : bk < bv) (hbt : bk < bt)
    (hNB3 : NB w1 w3 bk bm (upd R 5 ⟨v, (R 5).n + 1, (R 5).cs ++ [.int .i64 (ixN (fsL ins) d : Nat), .string (nm o)]⟩) (R 0).v v f) (hB : Beside wr w3 bk bm) : Rel4 w1 w3 bk bm bv bt N ins L0 E x tu a tc s81 := by
  subst ho
  obtain ⟨h1, h2, h3, h4, h5⟩ := h
  rw [← enc_eq (fsL ins) d (x.o % 4) hfs] at hNB3
  refine ⟨j + 1, _, f, hj, hs, hNB3, ?_, h3.beside hB hbv hNB3.lt, h4.beside hB (by omega) hNB3.lt, hB.keep bt _ h5 ⟨by decide, by decide⟩ (by omega) (by have := hNB3.lt; omega)⟩
  rw [take_ev E tu x j d hd, votL_snoc, if_pos hv]
  exact h2.vot v _

theorem loop3_no {w1 wr : World} {bk bm bv N k : Nat} {ins : List InD} {L0 : List Int} {x : InD} {R : Nat → Row} {f : Nat → Option Value} {s70 : Value} {o : Obj} (hNB : NB w1 wr bk bm R (R 0).v (R 5).v f)
    (hNL : NL R L0 (atL (fsL ins) (evs ((selX 1 ins).take k))) (votL (fsL ins) (vtL (selX 2 ins)) (evs ((selX 1 ins).take k))) f) (hM : MapIs wr bv (vtF (selX 2 ins))) (hx : (selX 1 ins)[k]? = some x) (hp : isP x = false) (hk : k < N) (hs : s70 = .int .i64 ((k + 1 : Nat) : Int)) :
    Rel3 w1 (wr.alloc o) bk bm bv N ins L0 s70 := by
  refine ⟨k + 1, R, f, hk, hs, hNB.later ((Below.refl _ _).alloc (Nat.le_refl _) _), ?_, hM.kept (Below.heap_alloc _ _ _ hM.lt)⟩
  rw [evs_snoc _ k x hx, show evOf x = [] from by simp [evOf, hp], List.append_nil]
  exact hNL

theorem loop4_start {w1 wr w4 : World} {bk bm bv : Nat} {ins : List InD} {L0 : List Int} {E : List (InD × Int)} {x : InD} {R : Nat → Row} {f : Nat → Option Value} {tc : Array Value} {a : Option Addr} {tu : List Int} {N : Nat} (hNB : NB w1 wr bk bm R (R 0).v (R 5).v f)
    (hNL : NL R L0 (atL (fsL ins) E) (votL (fsL ins) (vtL (selX 2 ins)) E) f) (hM : MapIs wr bv (vtF (selX 2 ins))) (hRI : RowI w4 (wr.alloc (.cells tc 53)).heap.size a tu) (hB : Below (wr.alloc (.cells tc 53)).heap.size (wr.alloc (.cells tc 53)) w4) :
    Rel4 w1 w4 bk bm bv wr.heap.size N ins L0 E x tu a tc (.int .i64 0) := by
  have h1 : NB w1 (wr.alloc (.cells tc 53)) bk bm R (R 0).v (R 5).v f := hNB.later ((Below.refl _ _).alloc (Nat.le_refl _) _)
  have h2 : MapIs (wr.alloc (.cells tc 53)) bv (vtF (selX 2 ins)) := hM.kept (Below.heap_alloc _ _ _ hM.lt)
  have hk := hNB.ltk
  refine ⟨0, R, f, Nat.zero_le _, rfl, h1.later hB, by simpa using hNL, h2.kept (hB.block _ h2.lt), hRI.mono (by simp; omega), ?_⟩
  rw [hB.block _ (by simp)]
  exact heap_alloc_new _ _

theorem loop3_yes {w1 wr : World} {bk bm bv bt N k : Nat} {ins : List InD} {L0 : List Int} {x : InD} {R : Nat → Row} {f : Nat → Option Value} {s70 : Value} {tu : List Int} (hNB : NB w1 wr bk bm R (R 0).v (R 5).v f)
    (hNL : NL R L0 (atL (fsL ins) (evs ((selX 1 ins).take k) ++ tu.map fun d => (x, d))) (votL (fsL ins) (vtL (selX 2 ins)) (evs ((selX 1 ins).take k) ++ tu.map fun d => (x, d))) f) (hM : MapIs wr bv (vtF (selX 2 ins))) (hx : (selX 1 ins)[k]? = some x) (hp : isP x = true) (htu : tu = turnsL x.F x.T) (hk : k < N) (hs : s70 = .int .i64 ((k + 1 : Nat) : Int)) :
    Rel3 w1 wr bk bm bv N ins L0 s70 := by
  refine ⟨k + 1, R, f, hk, hs, hNB, ?_, hM⟩
  rw [evs_snoc _ k x hx, show evOf x = tu.map (fun d => (x, d)) from by simp [evOf, hp, htu]]
  exact hNL

theorem turnsL_ge {F T : Int} (hF : -2147483648 ≤ F) (hT : -2147483648 ≤ T) : ∀ d ∈ turnsL F T, -2147483648 ≤ d := by
  intro d hd
  simp only [turnsL, List.mem_append] at hd
  rcases hd with hd | hd
  · by_cases e : F = -2147483648
    · simp [e] at hd
    · simp [e] at hd; omega
  · by_cases e : T = 2147483647
    · simp [e] at hd
    · simp [e] at hd; omega
theorem ts_at (o : Nat) (ho : o < 4) : 29 = ts (o + 1) := by unfold ts; rw [if_neg (by omega)]
theorem sz_at (o : Nat) (ho : o < 4) (v : Value) : [v].length = sz (o + 1) := by unfold sz; rw [if_neg (by omega)]; rfl
theorem NL.lens {R : Nat → Row} {L0 : List Int} {fs : List Int} {E : List (InD × Int)} {vt : Nat → Bool} {f : Nat → Option Value} (h : NL R L0 (atL fs E) (votL fs vt E) f) (hE : E.length ≤ 1000) : (∀ o, o < 4 → (R (o + 1)).n ≤ 2000) ∧ (R 5).n ≤ 2000 := by
  refine ⟨fun o ho => ?_, ?_⟩
  · rw [(h.ra o ho).1]; have := atL_len fs E o; omega
  · rw [h.r5.1]; have := votL_len fs vt E; omega
theorem NL.lens' {R : Nat → Row} {L0 : List Int} {fs : List Int} {E : List (InD × Int)} {A : Nat → List Int} {vt : Nat → Bool} {f : Nat → Option Value} (h : NL R L0 A (votL fs vt E) f) (hE : E.length ≤ 1000) : (R 5).n ≤ 2000 := by
  rw [h.r5.1]; have := votL_len fs vt E; omega
theorem ev_len {ins : List InD} (hn : ins.length ≤ 256) (k : Nat) (x : InD) (tu : List Int) (htu : tu.length ≤ 2) (j : Nat) : (evs ((selX 1 ins).take k) ++ (tu.take j).map fun d => (x, d)).length ≤ 1000 := by
  have h1 := evs_len ((selX 1 ins).take k)
  have h2 : ((selX 1 ins).take k).length ≤ (selX 1 ins).length := by rw [List.length_take]; exact Nat.min_le_right _ _
  have h3 := selX_len 1 ins
  have h4 := rowL_len 1 ins
  have h5 : (tu.take j).length ≤ tu.length := by rw [List.length_take]; exact Nat.min_le_right _ _
  rw [List.length_append, List.length_map]
  omega

/-! ### Sort, Compact on the state -/
theorem NB.ints {wI w : World} {bk bm : Nat} {R : Nat → Row} {v0 v5 : Value} {f : Nat → Option Value} (h : NB wI w bk bm R v0 v5 f) (j : Nat) (hj : j < 5) (L : List Int) (hn : (R j).n = L.length) (hc : (R j).cs = L.map (Value.int .i64)) : w.ownsRow (bk + 1) 3 1 (R j).v L.length (L.map (Value.int .i64)) := by
  have h1 := h.six.own j (by omega)
  have e1 : te j = 3 := by unfold te; rw [if_neg (by omega)]
  have e2 : sz j = 1 := by unfold sz; rw [if_neg (by omega)]
  rw [e1, e2, hn, hc] at h1
  exact h1
theorem slice_of_owns {w : World} {base : Nat} {e : TypeId} {s : Nat} {v : Value} {n : Nat} {xs : List Value} (h : w.ownsRow base e s v n xs) : ∃ a c, v = .slice a n c := by
  rcases h.2 with ⟨rfl, rfl⟩ | ⟨g, cap, cur, rfl, _⟩
  · exact ⟨none, 0, rfl⟩
  · exact ⟨_, cap, rfl⟩
/-- Row j holds another list, in its own block. -/
theorem NB.turn {wI w w' : World} {bk bm : Nat} {R : Nat → Row} {v0 v5 : Value} {f : Nat → Option Value} (h : NB wI w bk bm R v0 v5 f) (j : Nat) (hj : j < 5) (v : Value) (L : List Int) (hown : w'.ownsRow (bk + 1) 3 1 v L.length (L.map (Value.int .i64))) (hg : w.grownBy w' (R j).v.ownBlock) (hat : v.ownBlock = (R j).v.ownBlock) :
    NB wI w' bk bm (upd R j ⟨v, L.length, L.map (Value.int .i64)⟩) v0 v5 f ∧ Beside w w' bk bm ∧ w'.heap[bm]? = w.heap[bm]? := by
  have e1 : te j = 3 := by unfold te; rw [if_neg (by omega)]
  have e2 : sz j = 1 := by unfold sz; rw [if_neg (by omega)]
  exact ⟨h.row j (by omega) ⟨v, L.length, L.map (Value.int .i64)⟩ (by rw [e1, e2]; exact hown) hg (fun g hgv => .inl (by rw [← hat]; exact hgv)), h.row_beside j (by omega) hg, hg.block bm (by have h1 := h.lt; have h2 := h.ltk; omega) (fun e => by have h1 := ((h.six.own j (by omega)).lt bm e.symm).1; have h2 := h.lt; omega)⟩

theorem sortC {wI w : World} {bk bm : Nat} {R : Nat → Row} {v0 v5 : Value} {f : Nat → Option Value} (h : NB wI w bk bm R v0 v5 f) (j : Nat) (hj : j < 5) (L : List Int) (hn : (R j).n = L.length) (hc : (R j).cs = L.map (Value.int .i64)) (hl : L.length ≤ 9000) (v : Value) (hv : (R j).v = v) :
    Calls Ybad.prog 20 #[v] w fun e w' => e = .returned (.tuple #[]) ∧ NB wI w' bk bm (upd R j ⟨v, (L.mergeSort leI).length, (L.mergeSort leI).map (Value.int .i64)⟩) v0 v5 f ∧ Beside w w' bk bm ∧ w'.heap[bm]? = w.heap[bm]? := by
  subst hv
  refine (sort_row w (bk + 1) (R j).v L (h.ints j hj L hn hc) hl).mono fun e w' ⟨he, hown, hg⟩ => ⟨he, h.turn j hj _ _ (by simpa using hown) hg rfl⟩
theorem compC {wI w : World} {bk bm : Nat} {R : Nat → Row} {v0 v5 : Value} {f : Nat → Option Value} (h : NB wI w bk bm R v0 v5 f) (j : Nat) (hj : j < 5) (L : List Int) (hn : (R j).n = L.length) (hc : (R j).cs = L.map (Value.int .i64)) (hl : L.length ≤ 9000) (a : Option Addr) (n c : Nat) (hv : (R j).v = .slice a n c) :
    Calls Ybad.prog 21 #[.slice a n c] w fun e w' => e = .returned (.slice a (dd L).length c) ∧ NB wI w' bk bm (upd R j ⟨.slice a (dd L).length c, (dd L).length, (dd L).map (Value.int .i64)⟩) v0 v5 f ∧ Beside w w' bk bm ∧ w'.heap[bm]? = w.heap[bm]? := by
  rw [← hv]
  refine (compact_row w (bk + 1) (R j).v L (h.ints j hj L hn hc) hl).mono fun e w' ⟨v', he, hown, hg, hob, hex⟩ => ?_
  obtain rfl := hex a n c hv
  exact ⟨he, h.turn j hj _ _ hown hg hob⟩

theorem ddSort_nil_iff (L : List Int) : ddSort L = [] ↔ L = [] := by
  constructor
  · intro h
    cases L with
    | nil => rfl
    | cons a r => exact absurd ((ddSort_mem (a :: r) a).2 (by simp)) (by rw [h]; simp)
  · intro h; subst h; simp [ddSort, dd]

/-- The map's rows while the range is under way. -/
def lA (A : Nat → List Int) (left : Nat → Bool) (j : Nat) : List Int := if left j = true then A j else ddSort (A j)
theorem lA_step (A : Nat → List Int) (left : Nat → Bool) (i : Nat) : lA A (upd left i false) = upd (lA A left) i (ddSort (A i)) := by
  funext j
  unfold lA upd
  by_cases e : j = i
  · simp [e]
  · simp [e]
theorem MapRng.beside {w w' : World} {bk b r : Nat} {f : Nat → Option Value} {left : Nat → Bool} {cnt : Nat} (h : MapRng w b r f left cnt) (hb : w'.heap[b]? = w.heap[b]?) (hB : Beside w w' bk b) (hbk : bk < r) : MapRng w' b r f left cnt := by
  have hne := h.ne
  obtain ⟨D, lf, ⟨es, clock, since, seen, c0, h1, F, hs, hD, h2, rest⟩, h3⟩ := h
  exact ⟨D, lf, ⟨es, clock, since, seen, c0, hb.trans h1, F, hs, hD, hB.keep r _ h2 trivial (by omega) hne, rest⟩, h3⟩
theorem MapRng.iter {w : World} {b r : Nat} {f : Nat → Option Value} {left : Nat → Bool} {cnt : Nat} (h : MapRng w b r f left cnt) : ∃ o, w.heap[r]? = some o ∧ NoRow o := by
  obtain ⟨D, lf, ⟨es, clock, since, seen, c0, h1, F, hs, hD, h2, rest⟩, h3⟩ := h
  exact ⟨_, h2, trivial⟩
theorem NB.mapKept {wI w w' : World} {bk bm : Nat} {R : Nat → Row} {v0 v5 : Value} {f : Nat → Option Value} (h : NB wI w bk bm R v0 v5 f) (j : Nat) (hj : j < 6) (hg : w.grownBy w' (R j).v.ownBlock) : w'.heap[bm]? = w.heap[bm]? :=
  hg.block bm (by have h1 := h.lt; have h2 := h.ltk; omega) (fun e => by have h1 := ((h.six.own j hj).lt bm e.symm).1; have h2 := h.lt; omega)

theorem NL.congr {R : Nat → Row} {L0 : List Int} {A A' : Nat → List Int} {V : List (Nat × Nat)} {f : Nat → Option Value} (h : NL R L0 A V f) (hA : ∀ j, j < 4 → A j = A' j) : NL R L0 A' V f :=
  ⟨h.r0, fun j hj => by rw [← hA j hj]; exact h.ra j hj, h.r5, fun j hj => by rw [← hA j hj]; exact h.fa j hj, fun j hj => by rw [← hA j hj]; exact h.fn j hj⟩

abbrev Rel5 (w1 wr : World) (bk bm r : Nat) (L0 : List Int) (A : Nat → List Int) (V : List (Nat × Nat)) : Prop :=
  ∃ (left : Nat → Bool) (cnt : Nat) (R : Nat → Row) (f : Nat → Option Value), NB w1 wr bk bm R (R 0).v (R 5).v f ∧ NL R L0 (lA A left) V f ∧ MapRng wr bm r f left cnt

theorem rel5_start {w1 wr w5 : World} {bk bm r : Nat} {L0 : List Int} {A : Nat → List Int} {V : List (Nat × Nat)} {R : Nat → Row} {f : Nat → Option Value} {cnt : Nat} (hNB : NB w1 wr bk bm R (R 0).v (R 5).v f) (hNL : NL R L0 A V f) (hR : MapRng w5 bm r f (fun i => (f i).isSome) cnt) (hg : wr.grownBy w5 none) : Rel5 w1 w5 bk bm r L0 A V := by
  refine ⟨_, cnt, R, f, hNB.later ⟨hg.os, hg.tape, hg.output, hg.size, fun k hk => hg.block k hk (by simp)⟩, hNL.congr (fun j hj => ?_), hR⟩
  unfold lA
  show A j = if (f j).isSome = true then A j else ddSort (A j)
  rw [hNL.fa j hj]
  by_cases e : A j = []
  · simp [e, (ddSort_nil_iff []).2 rfl]
  · simp [e]

theorem rel5_in {w1 wr w2 : World} {bk bm r : Nat} {L0 : List Int} {A : Nat → List Int} {V : List (Nat × Nat)} {R : Nat → Row} {f : Nat → Option Value} {left : Nat → Bool} {cnt i : Nat} {v : Value} (hNB : NB w1 wr bk bm R (R 0).v (R 5).v f) (hNL : NL R L0 (lA A left) V f) (hR : MapRng wr bm r f left cnt) (hbr : bk < r) (hi : i < 4) (hl : left i = true) (hf : f i = some v) (hg : wr.grownBy w2 (some r)) :
    NB w1 w2 bk bm R (R 0).v (R 5).v f ∧ (R (i + 1)).v = v ∧ (R (i + 1)).n = (A i).length ∧ (R (i + 1)).cs = (A i).map (Value.int .i64) ∧ A i ≠ [] := by
  obtain ⟨o, h1, h2⟩ := hR.iter
  have e1 : lA A left i = A i := by simp [lA, hl]
  have e2 := hNL.fa i hi
  rw [e1, hf] at e2
  have hne : A i ≠ [] := by intro h; simp [h] at e2
  rw [if_neg hne] at e2
  have e3 := hNL.ra i hi
  rw [e1] at e3
  exact ⟨hNB.grown h1 h2 hbr hg, (Option.some.inj e2).symm, e3.1, e3.2, hne⟩

theorem rel5_step {w1 w5 w4 : World} {bk bm r : Nat} {L0 : List Int} {A : Nat → List Int} {V : List (Nat × Nat)} {R : Nat → Row} {f : Nat → Option Value} {left : Nat → Bool} {cnt i : Nat} {v : Value} {q : Row} (hNL : NL R L0 (lA A left) V f) (hi : i < 4) (hne : A i ≠ [])
    (hNB : NB w1 w4 bk bm (upd (upd R (i + 1) q) (i + 1) ⟨v, (ddSort (A i)).length, (ddSort (A i)).map (Value.int .i64)⟩) (R 0).v (R 5).v f) (hR : MapRng w5 bm r (upd f i (some v)) (upd left i false) cnt) (hg : w4.grownBy w5 (some bm)) : Rel5 w1 w5 bk bm r L0 A V := by
  have hu : upd (upd R (i + 1) q) (i + 1) ⟨v, (ddSort (A i)).length, (ddSort (A i)).map (Value.int .i64)⟩ = upd R (i + 1) ⟨v, (ddSort (A i)).length, (ddSort (A i)).map (Value.int .i64)⟩ := by
    funext j; unfold upd; split <;> rfl
  rw [hu] at hNB
  have h0 : upd R (i + 1) ⟨v, (ddSort (A i)).length, (ddSort (A i)).map (Value.int .i64)⟩ 0 = R 0 := upd_other _ _ _ _ (by omega)
  have h5 : upd R (i + 1) ⟨v, (ddSort (A i)).length, (ddSort (A i)).map (Value.int .i64)⟩ 5 = R 5 := upd_other _ _ _ _ (by omega)
  refine ⟨_, cnt, upd R (i + 1) ⟨v, (ddSort (A i)).length, (ddSort (A i)).map (Value.int .i64)⟩, upd f i (some v), by rw [h0, h5]; exact hNB.putm hg hR.is, ?_, hR⟩
  rw [lA_step]
  exact hNL.at' i hi v _ (fun h => hne ((ddSort_nil_iff _).1 h)) _ _ rfl rfl

/-- What newBreaks hands back. -/
structure Out (w : World) (bm : Nat) (v0 v5 : Value) (L0 : List Int) (A : Nat → List Int) (V : List (Nat × Nat)) : Prop where
  all : ∃ base, w.ownsRow base 3 1 v0 (ddSort L0).length ((ddSort L0).map (Value.int .i64))
  at_ : ∃ f, MapIs w bm f ∧ ∀ j, j < 4 → (A j = [] ∧ f j = none) ∨ (A j ≠ [] ∧ ∃ v base, f j = some v ∧ w.ownsRow base 3 1 v (ddSort (A j)).length ((ddSort (A j)).map (Value.int .i64)))
  vot : ∃ (base : Nat) (ps : List (Nat × Nat)), ps.Perm V ∧ ps.Pairwise (fun a b => bd a.1 ≤ bd b.1) ∧ w.ownsRow base 61 2 v5 V.length (ps.flatMap encT)

theorem NB.votes {wI w : World} {bk bm : Nat} {R : Nat → Row} {v0 v5 : Value} {f : Nat → Option Value} (h : NB wI w bk bm R v0 v5 f) (V : List (Nat × Nat)) (hn : (R 5).n = V.length) (hc : (R 5).cs = V.flatMap encT) : w.ownsRow (bk + 1) 61 2 (R 5).v V.length (V.flatMap encT) := by
  have h1 := h.six.own 5 (by decide)
  rw [hn, hc] at h1
  exact h1

theorem out_of {wI w w' W : World} {bk bm br : Nat} {R : Nat → Row} {f : Nat → Option Value} {L0 : List Int} {A : Nat → List Int} {V ps : List (Nat × Nat)} {left : Nat → Bool} (h : NB wI w bk bm R (R 0).v (R 5).v f) (hNL : NL R (ddSort L0) (lA A left) V f) (hl : ∀ i, i < 4 → left i = false)
    (hp : ps.Perm V) (hs : ps.Pairwise (fun a b => bd a.1 ≤ bd b.1)) (hown : w'.ownsRow (bk + 1) 61 2 (R 5).v V.length (ps.flatMap encT)) (hg : w.grownBy w' (R 5).v.ownBlock) (hW : ∀ k, br < k → W.heap[k]? = w'.heap[k]?) (hbr : br < bm) : Out W bm (R 0).v (R 5).v L0 A V := by
  have hlt := h.lt
  have hk := h.ltk
  have hN := h.row 5 (by decide) ⟨(R 5).v, V.length, ps.flatMap encT⟩ hown hg (fun g hgv => .inl hgv)
  have keep : ∀ {e s v n xs}, w'.ownsRow (bk + 1) e s v n xs → W.ownsRow (bk + 1) e s v n xs := fun ho => ownsRow_of_block ho (fun k hkb => hW k (by have := (ho.lt k hkb).1; omega))
  have eA : ∀ j, j < 4 → lA A left j = ddSort (A j) := fun j hj => by simp [lA, hl j hj]
  have h0 : upd R 5 ⟨(R 5).v, V.length, ps.flatMap encT⟩ 0 = R 0 := upd_other _ _ _ _ (by omega)
  refine ⟨⟨bk + 1, keep ?_⟩, ⟨f, hN.mp.kept (hW bm (by omega)), fun j hj => ?_⟩, ⟨bk + 1, ps, hp, hs, keep hown⟩⟩
  · have := hN.ints 0 (by decide) (ddSort L0) (by rw [h0]; exact hNL.r0.1) (by rw [h0]; exact hNL.r0.2)
    rw [h0] at this
    exact this
  · have hj5 : upd R 5 ⟨(R 5).v, V.length, ps.flatMap encT⟩ (j + 1) = R (j + 1) := upd_other _ _ _ _ (by omega)
    have hf := hNL.fa j hj
    rw [eA j hj] at hf
    by_cases e : A j = []
    · exact .inl ⟨e, by rw [hf, if_pos ((ddSort_nil_iff _).2 e)]⟩
    · refine .inr ⟨e, (R (j + 1)).v, bk + 1, by rw [hf, if_neg (fun h => e ((ddSort_nil_iff _).1 h))], keep ?_⟩
      have := hN.ints (j + 1) (by omega) (ddSort (A j)) (by rw [hj5, ← eA j hj]; exact (hNL.ra j hj).1) (by rw [hj5, ← eA j hj]; exact (hNL.ra j hj).2)
      rw [hj5] at this
      exact this
end Go.Proofs.YbulkagqaDoor
