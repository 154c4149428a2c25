import Derived.Test.YbulkagqaDoorE1
import Derived.Maps.RangeWalk
import Derived.Maps.OwnOps
namespace Go.Proofs.YbulkagqaDoor
open Go.RowKit Go.Lib
open Go.ChangeMaps Go.MapKept Go.WideShapes
open Go.WideElems (Fit rd rg pl rd_key rd_val rg_of rd_mk other_key)
open Go.Maps (Keyed)
set_option linter.unusedVariables false
set_option linter.unusedSimpArgs false

/-! ### A store at a key that is there, into the map that is ranged over -/
theorem ranges_put {H : Type} {P : Program} {k : TypeId} {R : Value → Option (DataW H × List MemPlace)} {w : World} {b r n : Nat} {D : DataW H} {left : Lit → Bool} {cnt : Nat} {t e : TypeId} (h : w.ranges P k R b r n D left cnt) (K : Keyed P k) (ht : P.underlying t = some (.map k e)) (hn : n < maxLen)
    {key val : Value} {kl : Lit} {d : DataW H} {ps : List MemPlace} (hkey : keyOf P k key = some kl) (hhas : Maps.has D kl = true) (hv : R val = some (d, ps)) :
    ∃ w', (Instr.mapUpdate t (.map (some b)) key val).run P w = .ok () w' ∧ w'.ranges P k R b r n (D.put kl d) left cnt ∧ w.grownBy w' (some b) ∧ w'.heap.size = w.heap.size := by
  have hne := h.ne
  obtain ⟨es, clock, since, seen, c0, hb, F, hs, rfl, hr, hold, rfl, hl1, hl2, hsc, hsk⟩ := h
  obtain ⟨es', clock', hrun, F', hput, _⟩ := Maps.fit_store (R' := R) K ht hb F (Nat.lt_of_le_of_lt hs hn) (fun _ _ _ _ hz => hz) hkey hv
  rcases K.find w hkey es.toList (fun x hx => by obtain ⟨y, hy⟩ := F.reads x hx; exact ⟨_, rd_key hy⟩) with ⟨h1, h2⟩ | ⟨j, e0, h1, h2, h3⟩
  · exfalso
    obtain ⟨p, hp, hpk⟩ := List.any_eq_true.1 hhas
    obtain ⟨x, hx, rfl⟩ := List.mem_map.1 (mem_sorted.1 hp)
    obtain ⟨y, hy⟩ := F.reads x hx
    have m1 := rd_key hy
    have e1 := WideAt.sameKey_eq hpk
    rw [rg_of hy] at e1
    rw [e1] at m1
    exact h2 x hx (K.inj m1 hkey)
  · have hj : es[j]? = some e0 := by simpa using h2
    have hrun2 : (Instr.mapUpdate t (.map (some b)) key val).run P w = .ok () (setBlock w b (.map (es.modify j (fun e' => { e' with key := key, val := val })) clock)) := by
      simp [Instr.mapUpdate, run_underlying ht, MapKept.run_getObj_map hb, K.check w false hkey, h1, hj, h3, K.stays w hkey, MapKept.run_setObj_map _ hb, Result.andThen, setBlock]
    have hee : es' = es.modify j (fun e' => { e' with key := key, val := val }) ∧ clock' = clock := by
      rw [hrun] at hrun2
      have h4 : setBlock w b (.map es' clock') = setBlock w b (.map (es.modify j (fun e' => { e' with key := key, val := val })) clock) := by injection hrun2
      have h5 := heap_setBlock_same hb (.map es' clock')
      rw [h4, heap_setBlock_same hb] at h5
      simp only [Option.some.injEq, Obj.map.injEq] at h5
      exact ⟨h5.1.symm, h5.2.symm⟩
    obtain ⟨rfl, rfl⟩ := hee
    have hlist : (es.modify j (fun e' => { e' with key := key, val := val })).toList = es.toList.set j { e0 with key := key, val := val } := by rw [Array.toList_modify, modify_eq_set _ _ _ _ h2]
    have hjl : j < es.toList.length := (List.getElem?_eq_some_iff.1 h2).1
    have hje : es.toList[j] = e0 := (List.getElem?_eq_some_iff.1 h2).2
    have hem : e0 ∈ es.toList := List.mem_of_getElem? h2
    have hrk : ∀ x : MapEntry, x ∈ es.toList → ∀ (v' : Value) bn, R v' = some (d, ps) → (rg P k R ⟨x.key, v', bn⟩).1 = (rg P k R x).1 := by
      intro x hx v' bn hv'
      obtain ⟨y, hy⟩ := F.reads x hx
      rw [rg_of hy, rg_of (rd_mk (rd_key hy) hv')]
    have who : ∀ x ∈ es.toList.set j { e0 with key := key, val := val }, ∃ y ∈ es.toList, y.born = x.born ∧ (rg P k R x).1 = (rg P k R y).1 := by
      intro x hx
      rcases List.mem_or_eq_of_mem_set hx with hx | rfl
      · exact ⟨x, hx, rfl, rfl⟩
      · exact ⟨e0, hem, rfl, by rw [← h3]; exact hrk e0 hem val _ hv⟩
    have hb' : (setBlock w b (.map (es.modify j (fun e' => { e' with key := key, val := val })) clock')).heap[b]? = _ := heap_setBlock_same hb _
    have hg2 : w.grownBy (setBlock w b (.map (es.modify j (fun e' => { e' with key := key, val := val })) clock')) (some b) := ⟨rfl, rfl, rfl, by simp [setBlock], fun i _ hi => heap_setBlock_other hb _ (fun e1 => hi (by rw [e1]))⟩
    refine ⟨_, hrun, ⟨_, _, since, seen, c0, hb', F', by simpa using hs, by rw [DataW.put_eq, hput], ?_, ?_, ?_, ?_, ?_, hsc, hsk⟩, hg2, by simp [setBlock]⟩
    · rw [heap_setBlock_other hb _ hne]; exact hr
    · intro x hx
      rw [hlist] at hx
      obtain ⟨y, hy, hyb, _⟩ := who x hx
      rw [← hyb]; exact hold y hy
    · have e1 : ∀ q : Array MapEntry, (leftOf q seen).size = ((q.toList.map MapEntry.born).filter fun n => !seen.contains n).length := by
        intro q
        unfold leftOf
        rw [← Array.length_toList, Array.toList_filter, List.filter_map, List.length_map]
        rfl
      rw [e1, e1, hlist, List.map_set]
      congr 2
      apply List.ext_getElem?
      intro i
      by_cases hi : j = i
      · subst hi
        rw [List.getElem?_set_self (by simpa using hjl), List.getElem?_map, h2]; rfl
      · simp [List.getElem?_set, hi]
    · intro x hx
      rw [hlist] at hx
      obtain ⟨y, hy, hyb, hyk⟩ := who x hx
      rw [hyk, ← hyb]; exact hl1 y hy
    · intro l hl
      obtain ⟨x, hx, hxl⟩ := hl2 l hl
      rw [hlist]
      obtain ⟨i, hi, hie⟩ := List.getElem_of_mem hx
      by_cases hij : j = i
      · subst hij
        refine ⟨{ e0 with key := key, val := val }, List.mem_iff_getElem.2 ⟨j, by simpa using hjl, by simp⟩, ?_⟩
        rw [← hxl, ← hie, hje, ← h3]
        exact hrk e0 hem val _ hv
      · exact ⟨x, List.mem_iff_getElem.2 ⟨i, by simpa using hi, by simp [List.getElem_set, hij, hie]⟩, hxl⟩

/-! ### A map keyed by the four names, as a function -/
def rawE : Value → Option (DataW Value × List MemPlace) := fun v => some (.held v, [])
theorem law9 : Keyed Ybad.prog 9 := Maps.string_keyed Ybad.underlying9
def kl (i : Nat) : Lit := .string (nm i).data.toList
theorem nm_size (i : Nat) : (nm i).size ≤ maxLen := by
  have h : (nm i).size ≤ 2 := by
    match i with
    | 0 => decide
    | 1 => decide
    | 2 => decide
    | _ + 3 => show (ByteArray.mk #[99]).size ≤ 2; decide
  unfold maxLen; omega
theorem key_nm (i : Nat) : keyOf Ybad.prog 9 (.string (nm i)) = some (kl i) := WideMaps.keyOf_string_mk Ybad.underlying9 (nm_size i)
theorem four {p : Nat → Prop} (h0 : p 0) (h1 : p 1) (h2 : p 2) (h3 : p 3) : ∀ i, i < 4 → p i := by
  intro i hi
  match i, hi with
  | 0, _ => exact h0
  | 1, _ => exact h1
  | 2, _ => exact h2
  | 3, _ => exact h3
theorem kl_inj : ∀ i, i < 4 → ∀ j, j < 4 → kl i = kl j → i = j := by
  refine four ?_ ?_ ?_ ?_ <;> refine four ?_ ?_ ?_ ?_ <;> simp [kl, nm]
theorem nm_inj (i : Nat) (hi : i < 4) (j : Nat) (hj : j < 4) (h : nm i = nm j) : i = j := kl_inj i hi j hj (by simp [kl, h])
def one (f : Nat → Option Value) (i : Nat) : Nat := if (f i).isSome then 1 else 0
def cntF (f : Nat → Option Value) : Nat := one f 0 + one f 1 + one f 2 + one f 3
theorem cntF_le (f : Nat → Option Value) : cntF f ≤ 4 := by
  have h : ∀ i, one f i ≤ 1 := fun i => by unfold one; split <;> omega
  have := h 0; have := h 1; have := h 2; have := h 3
  unfold cntF; omega
theorem cntF_upd (f : Nat → Option Value) (v : Value) : ∀ i, i < 4 → cntF (upd f i (some v)) = if (f i).isSome then cntF f else cntF f + 1 := by
  refine four ?_ ?_ ?_ ?_ <;> (simp only [cntF, one, upd]; simp) <;> (split <;> simp_all <;> omega)

/-- What the datum D says, key by key. -/
structure Says (D : DataW Value) (f : Nat → Option Value) : Prop where
  at_ : ∀ i, i < 4 → ∀ zd, D.atKey (kl i) zd = ((f i).map .held).getD zd
  has_ : ∀ i, i < 4 → Maps.has D (kl i) = (f i).isSome
  only : ∀ l, Maps.has D l = true → ∃ i, i < 4 ∧ l = kl i
  size : Maps.size D = cntF f

theorem Says.put {D : DataW Value} {f : Nat → Option Value} (h : Says D f) (ht : Maps.Tidy D) (v : Value) (i : Nat) (hi : i < 4) : Says (D.put (kl i) (.held v)) (upd f i (some v)) := by
  have hk : WideAt.IsKeyLit (kl i) := law9.key (key_nm i)
  refine ⟨fun j hj zd => ?_, fun j hj => ?_, fun l hl => ?_, ?_⟩
  · by_cases e : j = i
    · subst e; rw [upd_same, Maps.atKey_put_same ht.isMap hk]; rfl
    · rw [upd_other _ _ _ _ e, Maps.atKey_put_other (fun e2 => e (kl_inj j hj i hi e2)), h.at_ j hj]
  · by_cases e : j = i
    · subst e; rw [upd_same, Maps.has_put_same ht.isMap hk]; rfl
    · rw [upd_other _ _ _ _ e, Maps.has_put_other (fun e2 => e (kl_inj j hj i hi e2)), h.has_ j hj]
  · by_cases e : l = kl i
    · exact ⟨i, hi, e⟩
    · rw [Maps.has_put_other e] at hl
      exact h.only l hl
  · rw [Maps.size_put ht, h.has_ i hi, h.size, cntF_upd f v i hi]

def MapIs (w : World) (b : Nat) (f : Nat → Option Value) : Prop := ∃ D : DataW Value, w.ownsMap Ybad.prog 9 rawE b 4 D ∧ Says D f

theorem MapIs.lt {w : World} {b : Nat} {f : Nat → Option Value} (h : MapIs w b f) : b < w.heap.size := let ⟨_, h1, _⟩ := h; h1.lt
theorem MapIs.kept {w w' : World} {b : Nat} {f : Nat → Option Value} (h : MapIs w b f) (hb : w'.heap[b]? = w.heap[b]?) : MapIs w' b f := by
  obtain ⟨D, ⟨es, clock, h1, h2⟩, hS⟩ := h
  exact ⟨D, ⟨es, clock, hb.trans h1, h2⟩, hS⟩
theorem MapIs.made (w : World) : MapIs (w.alloc (.map #[] 0)) w.heap.size (fun _ => none) :=
  ⟨.map [], (World.ownsMap_made w _ _ _).mono (Nat.zero_le _), ⟨fun _ _ _ => rfl, fun _ _ => rfl, fun l h => (by cases h), rfl⟩⟩

theorem tight {w : World} {b n : Nat} {D : DataW Value} {f : Nat → Option Value} (h : w.ownsMap Ybad.prog 9 rawE b n D) (hS : Says D f) : w.ownsMap Ybad.prog 9 rawE b 4 D := by
  obtain ⟨es, clock, hb, F, hs, rfl⟩ := h
  refine ⟨es, clock, hb, F, ?_, rfl⟩
  have h1 := hS.size
  have h2 := cntF_le f
  have h3 : Maps.size (DataW.map ((es.toList.map (rg Ybad.prog 9 rawE)).foldr DataW.insert [])) = es.size := by simp [Maps.size, length_sorted]
  omega

theorem MapIs.look {w : World} {b : Nat} {f : Nat → Option Value} (h : MapIs w b f) (i : Nat) (hi : i < 4) (t e : TypeId) (ht : Ybad.prog.underlying t = some (.map 9 e)) (z : Value) (hz : (zeroValue e).run Ybad.prog w = .ok z w) :
    (Instr.lookup t (.map (some b)) (.string (nm i)) false).run Ybad.prog w = .ok ((f i).getD z) w := by
  obtain ⟨D, h1, hS⟩ := h
  obtain ⟨v, ps, hr, hv⟩ := h1.lookup law9 ht hz (zd := .held z) (zp := []) rfl (key_nm i)
  rw [hr]
  rw [hS.at_ i hi] at hv
  simp only [rawE, Option.some.injEq, Prod.mk.injEq] at hv
  have e1 := hv.1
  cases hf : f i with
  | none => rw [hf] at e1; simp at e1; simp [e1]
  | some u => rw [hf] at e1; simp at e1; simp [e1]

theorem MapIs.look_ok {w : World} {b : Nat} {f : Nat → Option Value} (h : MapIs w b f) (i : Nat) (hi : i < 4) (t e : TypeId) (ht : Ybad.prog.underlying t = some (.map 9 e)) (z : Value) (hz : (zeroValue e).run Ybad.prog w = .ok z w) :
    (Instr.lookup t (.map (some b)) (.string (nm i)) true).run Ybad.prog w = .ok (.tuple #[(f i).getD z, .bool (f i).isSome]) w := by
  obtain ⟨D, h1, hS⟩ := h
  obtain ⟨v, ps, hr, hv⟩ := h1.look_ok law9 ht hz (zd := .held z) (zp := []) rfl (key_nm i)
  rw [hr, hS.has_ i hi]
  rw [hS.at_ i hi] at hv
  simp only [rawE, Option.some.injEq, Prod.mk.injEq] at hv
  have e1 := hv.1
  cases hf : f i with
  | none => rw [hf] at e1; simp at e1; simp [e1]
  | some u => rw [hf] at e1; simp at e1; simp [e1]

theorem MapIs.put {w : World} {b : Nat} {f : Nat → Option Value} (h : MapIs w b f) (i : Nat) (hi : i < 4) (v : Value) (t e : TypeId) (ht : Ybad.prog.underlying t = some (.map 9 e)) :
    ∃ w', (Instr.mapUpdate t (.map (some b)) (.string (nm i)) v).run Ybad.prog w = .ok () w' ∧ MapIs w' b (upd f i (some v)) ∧ w.grownBy w' (some b) := by
  obtain ⟨D, h1, hS⟩ := h
  obtain ⟨w', hr, h2, hg⟩ := h1.update law9 ht (by unfold maxLen; omega) (key_nm i) (d := .held v) (ps := []) rfl
  have hS2 := hS.put (h1.tidy law9) v i hi
  exact ⟨w', hr, ⟨_, tight h2 hS2, hS2⟩, hg⟩

theorem MapIs.len {w : World} {b : Nat} {f : Nat → Option Value} (h : MapIs w b f) (t e ty : TypeId) (ht : Ybad.prog.underlying t = some (.map 9 e)) : (Builtin.len_ #[t] ty #[.map (some b)]).run Ybad.prog w = .ok (.int .i64 (cntF f)) w := by
  obtain ⟨D, h1, hS⟩ := h
  rw [h1.len ht ty, hS.size]

/-! The range under way. -/
def MapRng (w : World) (b r : Nat) (f : Nat → Option Value) (left : Nat → Bool) (cnt : Nat) : Prop := ∃ (D : DataW Value) (lf : Lit → Bool), w.ranges Ybad.prog 9 rawE b r 4 D lf cnt ∧ Says D f ∧ (∀ i, i < 4 → lf (kl i) = left i)

theorem MapRng.is {w : World} {b r : Nat} {f : Nat → Option Value} {left : Nat → Bool} {cnt : Nat} (h : MapRng w b r f left cnt) : MapIs w b f := by
  obtain ⟨D, lf, h1, h2, _⟩ := h
  exact ⟨D, h1.owns, h2⟩
theorem MapRng.left_eq {w : World} {b r : Nat} {f : Nat → Option Value} {left : Nat → Bool} {cnt : Nat} (h : MapRng w b r f left cnt) : w.rangeLeft b r = cnt := by
  obtain ⟨D, lf, h1, _⟩ := h
  exact h1.left_eq
theorem MapRng.ne {w : World} {b r : Nat} {f : Nat → Option Value} {left : Nat → Bool} {cnt : Nat} (h : MapRng w b r f left cnt) : r ≠ b := by
  obtain ⟨D, lf, h1, _⟩ := h
  exact h1.ne
theorem MapRng.lt {w : World} {b r : Nat} {f : Nat → Option Value} {left : Nat → Bool} {cnt : Nat} (h : MapRng w b r f left cnt) : r < w.heap.size := by
  obtain ⟨D, lf, h1, _⟩ := h
  exact h1.lt
theorem MapRng.kept {w w' : World} {b r : Nat} {f : Nat → Option Value} {left : Nat → Bool} {cnt : Nat} (h : MapRng w b r f left cnt) (hb : w'.heap[b]? = w.heap[b]?) (hr : w'.heap[r]? = w.heap[r]?) : MapRng w' b r f left cnt := by
  obtain ⟨D, lf, ⟨es, clock, since, seen, c0, h1, F, hs, hD, h2, rest⟩, h3⟩ := h
  exact ⟨D, lf, ⟨es, clock, since, seen, c0, hb.trans h1, F, hs, hD, hr.trans h2, rest⟩, h3⟩

theorem MapRng.put {w : World} {b r : Nat} {f : Nat → Option Value} {left : Nat → Bool} {cnt : Nat} (h : MapRng w b r f left cnt) (i : Nat) (hi : i < 4) (hf : (f i).isSome = true) (v : Value) (t e : TypeId) (ht : Ybad.prog.underlying t = some (.map 9 e)) :
    ∃ w', (Instr.mapUpdate t (.map (some b)) (.string (nm i)) v).run Ybad.prog w = .ok () w' ∧ MapRng w' b r (upd f i (some v)) left cnt ∧ w.grownBy w' (some b) := by
  obtain ⟨D, lf, h1, hS, hl⟩ := h
  obtain ⟨w', hr, h2, hg, _⟩ := ranges_put h1 law9 ht (by unfold maxLen; omega) (key_nm i) (by rw [hS.has_ i hi]; exact hf) (d := .held v) (ps := []) (val := v) rfl
  exact ⟨w', hr, ⟨_, lf, h2, hS.put (h1.owns.tidy law9) v i hi, hl⟩, hg⟩

/-! ### at the operations -/
section
variable (w : World) {ops : Array Oper} {rest : List Oper} {o : Oper} {a : Act} {Q : Exit → Act → World → Prop}

theorem wpList_mapLook (hg : o.guard = none) (m x : Operand) (t : TypeId) (hop : o.op = Op.lookup t m x false) (e : TypeId) (ht : Ybad.prog.underlying t = some (.map 9 e)) (z : Value) (hz : (zeroValue e).run Ybad.prog w = .ok z w) (b : Nat) (f : Nat → Option Value) (h : MapIs w b f)
    (i : Nat) (hi : i < 4) (hm : a.eval m = .map (some b)) (hx : a.eval x = .string (nm i)) (v : Value) (hv : (f i).getD z = v) (hK : wpList Ybad.prog ops Q rest (a.put o.dst v) w) : wpList Ybad.prog ops Q (o :: rest) a w := by
  refine wpList_plain hg fun K' hK' => ?_
  have hr := h.look i hi t e ht z hz
  rw [hv] at hr
  unfold Oper.wp
  simp [execOp, hop, hm, hx, hr, Result.andThen]
  exact hK' _ _ hK

theorem wpList_mapLookOk (hg : o.guard = none) (m x : Operand) (t : TypeId) (hop : o.op = Op.lookup t m x true) (e : TypeId) (ht : Ybad.prog.underlying t = some (.map 9 e)) (z : Value) (hz : (zeroValue e).run Ybad.prog w = .ok z w) (b : Nat) (f : Nat → Option Value) (h : MapIs w b f)
    (i : Nat) (hi : i < 4) (hm : a.eval m = .map (some b)) (hx : a.eval x = .string (nm i)) (v : Value) (hv : (f i).getD z = v) (ok : Bool) (hok : (f i).isSome = ok) (hK : wpList Ybad.prog ops Q rest (a.put o.dst (.tuple #[v, .bool ok])) w) : wpList Ybad.prog ops Q (o :: rest) a w := by
  refine wpList_plain hg fun K' hK' => ?_
  have hr := h.look_ok i hi t e ht z hz
  rw [hv, hok] at hr
  unfold Oper.wp
  simp [execOp, hop, hm, hx, hr, Result.andThen]
  exact hK' _ _ hK

theorem wpList_mapPut (hg : o.guard = none) (m x v : Operand) (t : TypeId) (hop : o.op = Op.mapUpdate t m x v) (e : TypeId) (ht : Ybad.prog.underlying t = some (.map 9 e)) (b : Nat) (f : Nat → Option Value) (h : MapIs w b f)
    (i : Nat) (hi : i < 4) (u : Value) (hm : a.eval m = .map (some b)) (hx : a.eval x = .string (nm i)) (hv : a.eval v = u)
    (hK : ∀ w', MapIs w' b (upd f i (some u)) → w.grownBy w' (some b) → wpList Ybad.prog ops Q rest (a.put o.dst undef) w') : wpList Ybad.prog ops Q (o :: rest) a w := by
  refine wpList_plain hg fun K' hK' => ?_
  obtain ⟨w', hr, r1, r2⟩ := h.put i hi u t e ht
  unfold Oper.wp
  simp [execOp, hop, hm, hx, hv, hr, Result.andThen]
  exact hK' _ _ (hK w' r1 r2)

theorem wpList_mapRange (hg : o.guard = none) (m : Operand) (t : TypeId) (hop : o.op = Op.range t m) (e : TypeId) (ht : Ybad.prog.underlying t = some (.map 9 e)) (b : Nat) (f : Nat → Option Value) (h : MapIs w b f) (hm : a.eval m = .map (some b))
    (hK : ∀ w', MapRng w' b w.heap.size f (fun i => (f i).isSome) (cntF f) → w.grownBy w' none → w'.heap.size = w.heap.size + 1 → wpList Ybad.prog ops Q rest (a.put o.dst (.pointer (some ⟨w.heap.size, 0, none⟩))) w') : wpList Ybad.prog ops Q (o :: rest) a w := by
  obtain ⟨D, h1, hS⟩ := h
  refine wpList_range_own w hg m t hop 9 e law9 ht rawE b 4 D hm h1 fun w' h2 h3 h4 => hK w' ⟨D, _, ?_, hS, fun i hi => hS.has_ i hi⟩ h3 h4
  rw [← hS.size]; exact h2

theorem wpList_mapNext (hg : o.guard = none) (it : Operand) (hop : o.op = Op.next it false) (b r : Nat) (f : Nat → Option Value) (left : Nat → Bool) (cnt : Nat) (hit : a.eval it = .pointer (some ⟨r, 0, none⟩)) (h : MapRng w b r f left cnt)
    (hDone : (∀ i, i < 4 → left i = false) → wpList Ybad.prog ops Q rest (a.put o.dst (.tuple #[.bool false])) w)
    (hMore : ∀ (i : Nat) (v : Value) (w' : World) (cnt' : Nat), i < 4 → left i = true → f i = some v → MapRng w' b r f (upd left i false) cnt' → cnt' < cnt → w.grownBy w' (some r) → w'.heap.size = w.heap.size →
      (Instr.entry (.pointer (some ⟨r, 0, none⟩))).run Ybad.prog w' = .ok (.tuple #[.string (nm i), v]) w' → wpList Ybad.prog ops Q rest (a.put o.dst (.tuple #[.bool true, .string (nm i), v])) w') : wpList Ybad.prog ops Q (o :: rest) a w := by
  obtain ⟨D, lf, h1, hS, hl⟩ := h
  refine wpList_plain hg fun K' hK' => ?_
  unfold Oper.wp
  rcases h1.next law9 o.type with ⟨h0, hl0, hrun⟩ | ⟨key, v, l, y, w', cnt', hkey, hlk, hv, hat, hrun, hrg, hlt, hgr, hsz, hen⟩
  · simp [execOp, hop, hit, hrun, Result.andThen]
    exact hK' _ _ (hDone fun i hi => by rw [← hl i hi]; exact hl0 _)
  · obtain ⟨i, hi, rfl⟩ := hS.only l (Maps.has_true_of_atKey hat)
    obtain rfl : key = .string (nm i) := law9.inj hkey (key_nm i)
    have hf : f i = some v := by
      have h5 := hat (.held undef)
      have h6 := hat .nil
      rw [hS.at_ i hi] at h5 h6
      simp only [rawE, Option.some.injEq] at hv
      rw [← hv] at h5 h6
      cases hfi : f i with
      | none => rw [hfi] at h6; simp at h6
      | some u => rw [hfi] at h6; simp at h6; rw [h6]
    simp [execOp, hop, hit, hrun, Result.andThen]
    refine hK' _ _ (hMore i v w' cnt' hi (by rw [← hl i hi]; exact hlk) hf ⟨D, _, hrg, hS, fun j hj => ?_⟩ hlt hgr hsz hen)
    show (lf (kl j) && !(kl j).sameKey (kl i)) = _
    by_cases e : j = i
    · subst e
      rw [upd_same, WideAt.sameKey_self (law9.key (key_nm j))]; simp
    · rw [upd_other _ _ _ _ e, hl j hj, Maps.sameKey_ne (fun e2 => e (kl_inj j hj i hi e2))]; simp

theorem wpList_mapLen (hg : o.guard = none) (m : Operand) (t : TypeId) (hop : o.op = Op.call { callee := Callee.builtin Builtin.len, args := #[m], argTypes := #[t] }) (e : TypeId) (ht : Ybad.prog.underlying t = some (.map 9 e)) (b : Nat) (f : Nat → Option Value) (h : MapIs w b f) (hm : a.eval m = .map (some b))
    (hK : wpList Ybad.prog ops Q rest (a.put o.dst (.int .i64 (cntF f))) w) : wpList Ybad.prog ops Q (o :: rest) a w := by
  refine wpList_plain hg fun K' hK' => ?_
  unfold Oper.wp
  simp [execOp, hop, resolve, invoke, builtin, hm, h.len t e o.type ht, Result.andThen]
  exact hK' _ _ hK

/-- At a step of a region that draws its order. -/
theorem step_mapPut {K : Act → World → Prop} {E : Prop} (hg : o.guard = none) (m x v : Operand) (t : TypeId) (hop : o.op = Op.mapUpdate t m x v) (e : TypeId) (ht : Ybad.prog.underlying t = some (.map 9 e)) (b : Nat) (f : Nat → Option Value) (h : MapIs w b f)
    (i : Nat) (hi : i < 4) (u : Value) (hm : a.eval m = .map (some b)) (hx : a.eval x = .string (nm i)) (hv : a.eval v = u)
    (hK : ∀ w', MapIs w' b (upd f i (some u)) → w.grownBy w' (some b) → K (a.put o.dst undef) w') : if Region.wanted o (yielded ops a.tmps) = true then Oper.wp Ybad.prog o a w K Q else E := by
  have hw : Region.wanted o (yielded ops a.tmps) = true := by simp [Region.wanted, hg]
  rw [if_pos hw]
  obtain ⟨w', hr, r1, r2⟩ := h.put i hi u t e ht
  unfold Oper.wp
  simp [execOp, hop, hm, hx, hv, hr, Result.andThen]
  exact hK w' r1 r2
end
end Go.Proofs.YbulkagqaDoor
