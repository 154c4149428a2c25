import Derived.Test.YbulkagqaDoorG1
import Derived.Deep.DeepCutAuto
namespace Go.Proofs.YbulkagqaDoor
open Go.RowKit Go.Lib
set_option linter.unusedVariables false
set_option linter.unusedSimpArgs false

/-- What newBreaks does, as a hypothesis of the laws' walks (paid by 'newBreaks_any'). -/
def NBC : Prop := ∀ (bc : Nat) (ins : List InD) (w : World), ins.length ≤ 256 → (∀ x ∈ ins, x.ok) → CalAt w bc ins → RulesAt w →
  Calls Ybad.prog 7 #[.pointer (some ⟨bc, 0, none⟩)] w fun e w' => ∃ bm v0 v5, e = .returned (.agg #[v0, .map (some bm), v5]) ∧ Out w' bm v0 v5 ((dsL ins).map (fun d => (ixN (fsL ins) d : Int))) (atL (fsL ins) (evs (selX 1 ins))) (votL (fsL ins) (vtL (selX 2 ins)) (evs (selX 1 ins))) ∧ Below w.heap.size w w'

theorem ins_ok {w : World} {a : Option Addr} {ins : List InD} (h : InsAt w a ins) : ∀ x ∈ ins, x.ok := fun x hx => by
  obtain ⟨j, hj, rfl⟩ := List.getElem_of_mem hx
  exact (h j _ (List.getElem?_eq_getElem hj)).1

theorem infoI : (Ybad.prog.info? 3).map (fun i => (i.zero, i.size, i.bytes)) = some (some (.int .i64 0), 1, 8) := by kernel_rfl

/-- The state behind the two calls: the set's block bs, k's block bk. -/
structure St (U : World) (bs bk bc g c : Nat) (ta pa : Option Addr) (tz pz : Nat) (ins : List InD) (v0 v5 : Value) (bm : Nat) : Prop where
  s0 : U.cell? ⟨bs, 0, none⟩ = some (.pointer (some ⟨bc, 0, none⟩))
  s1 : U.cell? ⟨bs, 1, none⟩ = some (.slice ta (rowL 4 ins).length tz)
  s2 : U.cell? ⟨bs, 2, none⟩ = some (.slice pa (rowL 5 ins).length pz)
  s3 : ∀ i, i < 4 → U.cell? ⟨bs, 3 + i, none⟩ = some (.bool (voteB i ins))
  k0 : U.cell? ⟨bk, 0, none⟩ = some v0
  k1 : U.cell? ⟨bk, 1, none⟩ = some (.map (some bm))
  k2 : U.cell? ⟨bk, 2, none⟩ = some v5
  f6 : U.cell? ⟨bc, 6, none⟩ = some (.slice (some ⟨g, 0, none⟩) (fsL ins).length c)
  fd : DatesAt U g (fsL ins)
  tt : ∀ j t, (rowL 4 ins)[j]? = some t → ∃ g, ta = some ⟨g, 0, none⟩ ∧ TieAt U g (j * 7) t
  tp : ∀ j t, (rowL 5 ins)[j]? = some t → ∃ g, pa = some ⟨g, 0, none⟩ ∧ TieAt U g (j * 7) t
  out : Out U bm v0 v5 ((dsL ins).map (fun d => (ixN (fsL ins) d : Int))) (atL (fsL ins) (evs (selX 1 ins))) (votL (fsL ins) (vtL (selX 2 ins)) (evs (selX 1 ins)))

theorem own_later {w W : World} {base : Nat} {e : TypeId} {s : Nat} {v : Value} {n : Nat} {xs : List Value} (h : w.ownsRow base e s v n xs) (hb : ∀ k, k < w.heap.size → W.heap[k]? = w.heap[k]?) : W.ownsRow base e s v n xs :=
  ownsRow_of_block h (fun k hk => hb k (h.lt k hk).2)
theorem Out.later {w W : World} {bm : Nat} {v0 v5 : Value} {L0 : List Int} {A : Nat → List Int} {V : List (Nat × Nat)} (h : Out w bm v0 v5 L0 A V) (hb : ∀ k, k < w.heap.size → W.heap[k]? = w.heap[k]?) : Out W bm v0 v5 L0 A V := by
  obtain ⟨⟨b0, h0⟩, ⟨f, h1, h2⟩, ⟨b5, ps, p1, p2, p3⟩⟩ := h
  refine ⟨⟨b0, own_later h0 hb⟩, ⟨f, h1.kept (hb _ h1.lt), fun j hj => ?_⟩, ⟨b5, ps, p1, p2, own_later p3 hb⟩⟩
  rcases h2 j hj with h | ⟨h3, v, base, h4, h5⟩
  · exact .inl h
  · exact .inr ⟨h3, v, base, h4, own_later h5 hb⟩

/-- Behind both calls. -/
theorem st_made {u1 u2 : World} {bc : Nat} {ta pa : Option Addr} {tz pz : Nat} {ins : List InD} {v0 v5 : Value} {bm bs bk g c : Nat} (hC : CalAt u1 bc ins) (hf : u1.cell? ⟨bc, 6, none⟩ = some (.slice (some ⟨g, 0, none⟩) (fsL ins).length c) ∧ DatesAt u1 g (fsL ins) ∧ g < u1.heap.size)
    (hT : TiesAt u1 (.slice ta (rowL 4 ins).length tz) (rowL 4 ins)) (hP : TiesAt u1 (.slice pa (rowL 5 ins).length pz) (rowL 5 ins)) (hbs : u1.heap.size = bs) (hbk : u2.heap.size = bk)
    (hB : Below (u1.alloc (.cells #[.pointer (some ⟨bc, 0, none⟩), .slice ta (rowL 4 ins).length tz, .slice pa (rowL 5 ins).length pz, .bool (voteB 0 ins), .bool (voteB 1 ins), .bool (voteB 2 ins), .bool (voteB 3 ins)] 27)).heap.size (u1.alloc (.cells #[.pointer (some ⟨bc, 0, none⟩), .slice ta (rowL 4 ins).length tz, .slice pa (rowL 5 ins).length pz, .bool (voteB 0 ins), .bool (voteB 1 ins), .bool (voteB 2 ins), .bool (voteB 3 ins)] 27)) u2)
    (hO : Out u2 bm v0 v5 ((dsL ins).map (fun d => (ixN (fsL ins) d : Int))) (atL (fsL ins) (evs (selX 1 ins))) (votL (fsL ins) (vtL (selX 2 ins)) (evs (selX 1 ins)))) :
    St (u2.alloc (.cells #[v0, .map (some bm), v5] 33)) bs bk bc g c ta pa tz pz ins v0 v5 bm := by
  subst hbs hbk
  have hz := hB.size
  simp only [World.size_alloc] at hz hB
  have k1 : ∀ k, k < u1.heap.size → (u2.alloc (.cells #[v0, .map (some bm), v5] 33)).heap[k]? = u1.heap[k]? := fun k hk => (Below.heap_alloc _ _ _ (by omega)).trans ((hB.block k (by omega)).trans (Below.heap_alloc _ _ _ hk))
  have hb : (u2.alloc (.cells #[v0, .map (some bm), v5] 33)).heap[u1.heap.size]? = some (.cells #[.pointer (some ⟨bc, 0, none⟩), .slice ta (rowL 4 ins).length tz, .slice pa (rowL 5 ins).length pz, .bool (voteB 0 ins), .bool (voteB 1 ins), .bool (voteB 2 ins), .bool (voteB 3 ins)] 27) := (Below.heap_alloc _ _ _ (by omega)).trans ((hB.block _ (by omega)).trans (heap_alloc_new _ _))
  have hT' := hT.later k1
  have hP' := hP.later k1
  obtain ⟨a1, z1, e1, t1⟩ := hT'
  obtain ⟨a2, z2, e2, t2⟩ := hP'
  simp only [Value.slice.injEq] at e1 e2
  obtain ⟨rfl, _, _⟩ := e1
  obtain ⟨rfl, _, _⟩ := e2
  refine ⟨by simp [World.cell?, hb], by simp [World.cell?, hb], by simp [World.cell?, hb], four ?_ ?_ ?_ ?_, by rw [World.cell?_alloc_at _ _ _ _ rfl]; rfl, by rw [World.cell?_alloc_at _ _ _ _ rfl]; rfl, by rw [World.cell?_alloc_at _ _ _ _ rfl]; rfl, ?_, hf.2.1.later (k1 g hf.2.2), t1, t2, hO.later (fun k hk => Below.heap_alloc _ _ _ hk)⟩
  · simp [World.cell?, hb]
  · simp [World.cell?, hb]
  · simp [World.cell?, hb]
  · simp [World.cell?, hb]
  · exact (World.cell?_of_block (a := ⟨bc, 6, none⟩) (k1 bc (World.block_lt_of_cell? u1 _ hf.1))).trans hf.1

theorem St.later {U W : World} {bs bk bc g c : Nat} {ta pa : Option Addr} {tz pz : Nat} {ins : List InD} {v0 v5 : Value} {bm : Nat} (h : St U bs bk bc g c ta pa tz pz ins v0 v5 bm) (hB : Below U.heap.size U W) : St W bs bk bc g c ta pa tz pz ins v0 v5 bm := by
  have ec : ∀ a v, U.cell? a = some v → W.cell? a = some v := fun a v h => (World.cell?_of_block (hB.block _ (World.block_lt_of_cell? U a h))).trans h
  refine ⟨ec _ _ h.s0, ec _ _ h.s1, ec _ _ h.s2, fun i hi => ec _ _ (h.s3 i hi), ec _ _ h.k0, ec _ _ h.k1, ec _ _ h.k2, ec _ _ h.f6, fun j hj => ec _ _ (h.fd j hj), fun j t hj => ?_, fun j t hj => ?_, h.out.later hB.block⟩
  · obtain ⟨g, e, ht⟩ := h.tt j t hj
    exact ⟨g, e, ht.kept (hB.block g (World.block_lt_of_cell? U ⟨g, j * 7, none⟩ ht.c0))⟩
  · obtain ⟨g, e, ht⟩ := h.tp j t hj
    exact ⟨g, e, ht.kept (hB.block g (World.block_lt_of_cell? U ⟨g, j * 7, none⟩ ht.c0))⟩

/-- A row of numbers that the law itself builds; nothing older than U has turned. -/
structure RowW (U w : World) (v : Value) (L : List Int) : Prop where
  own : w.ownsRow U.heap.size 3 1 v L.length (L.map (Value.int .i64))
  low : Below U.heap.size U w
theorem RowW.start (U : World) : RowW U U (.slice none 0 0) [] := ⟨World.ownsRow_nil _ _ _ _, Below.refl _ _⟩
theorem RowW.nil {U w : World} {v : Value} {L : List Int} (h : RowW U w v L) : RowW U w (.slice none 0 0) [] := ⟨World.ownsRow_nil _ _ _ _, h.low⟩
theorem RowW.later {U w w' : World} {v : Value} {L : List Int} (h : RowW U w v L) (hB : Below w.heap.size w w') : RowW U w' v L :=
  ⟨own_later h.own hB.block, h.low.trans (hB.mono h.low.size)⟩

theorem wpList_addInt {ops : Array Oper} {rest : List Oper} {o : Oper} {a : Act} {Q : Exit → Act → World → Prop} (hgd : o.guard = none) (s x : Operand)
    (ho : o.op = .call { callee := .builtin .append, args := #[s, x], argTypes := #[29, 29] }) (U w : World) (v : Value) (L : List Int) (h : RowW U w v L) (hs : a.eval s = v) (N : Nat) (hN : w.heap.size = N) (hx : a.eval x = .slice (some ⟨N, 0, none⟩) 1 1) (z : Int) (hl : L.length ≤ 9000)
    (W : World) (hW : W = w.alloc (.cells #[.int .i64 z] 3)) (hK : ∀ v' w', RowW U w' v' (L ++ [z]) → wpList Ybad.prog ops Q rest (a.put o.dst v') w') : wpList Ybad.prog ops Q (o :: rest) a W := by
  subst hW hN
  obtain ⟨i0, hi, hz0, hz1, hz2⟩ := info_parts infoI
  have hsz := h.low.size
  refine wpList_append_own _ hgd s x 29 ho U.heap.size 3 i0 (.int .i64 0) 1 8 Ybad.underlying29 hi hz0 hz1 hz2 rfl (by decide) v L.length (L.map (Value.int .i64)) hs (h.own.alloc _) ⟨w.heap.size, 0, none⟩ 1 1 [.int .i64 z] hx rfl ?_ (by intro u hu; simp at hu; subst hu; rfl) (by unfold maxLen; omega) (by omega) (by simp; omega) ?_
  · intro j u hj
    match j, hj with
    | 0, hj => simp at hj; subst hj; simp [Addr.add]
  · intro v' w' hown hg _
    refine hK v' w' ⟨by simpa using hown, (h.low.alloc hsz _).grown hg (by simp; omega) (fun k hk => (h.own.lt k hk).1)⟩
end Go.Proofs.YbulkagqaDoor
