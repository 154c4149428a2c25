import Derived.Test.YbulkagqaDoorProg
import Derived.WalkKit
import Derived.WalkSpells
import Derived.Lib.Walk
namespace Go.Proofs.YbulkagqaDoor
open Go.RowKit

theorem hid {p : Prop} (h : p) : Hid p := h

/-- A tie as data: its seven cells but for the share, which is nil throughout. -/
structure TieD where
  subj : ByteArray
  rel : ByteArray
  obj : ByteArray
  F : Int
  T : Int
  L : Int

def TieD.cells (t : TieD) : List Value := [.string t.subj, .string t.rel, .string t.obj, .pointer none, .int .i32 t.F, .int .i32 t.T, .int .i64 t.L]

/-- The tie's seven cells lie at that place. -/
structure TieAt (w : World) (g off : Nat) (t : TieD) : Prop where
  c0 : w.cell? ⟨g, off, none⟩ = some (.string t.subj)
  c1 : w.cell? ⟨g, off + 1, none⟩ = some (.string t.rel)
  c2 : w.cell? ⟨g, off + 2, none⟩ = some (.string t.obj)
  c3 : w.cell? ⟨g, off + 3, none⟩ = some (.pointer none)
  c4 : w.cell? ⟨g, off + 4, none⟩ = some (.int .i32 t.F)
  c5 : w.cell? ⟨g, off + 5, none⟩ = some (.int .i32 t.T)
  c6 : w.cell? ⟨g, off + 6, none⟩ = some (.int .i64 t.L)

theorem TieAt.kept {w w' : World} {g off : Nat} {t : TieD} (h : TieAt w g off t) (hb : w'.heap[g]? = w.heap[g]?) : TieAt w' g off t := by
  have e : ∀ o, w'.cell? ⟨g, o, none⟩ = w.cell? ⟨g, o, none⟩ := fun o => World.cell?_of_block (a := ⟨g, o, none⟩) hb
  exact ⟨(e _).trans h.c0, (e _).trans h.c1, (e _).trans h.c2, (e _).trans h.c3, (e _).trans h.c4, (e _).trans h.c5, (e _).trans h.c6⟩

/-- A slice of ties reads as that list. -/
def TiesAt (w : World) (v : Value) (ts : List TieD) : Prop :=
  ∃ a cap, v = .slice a ts.length cap ∧ ∀ j t, ts[j]? = some t → ∃ g, a = some ⟨g, 0, none⟩ ∧ TieAt w g (j * 7) t

theorem cells_at : ∀ (ts : List TieD) (j : Nat) (t : TieD), ts[j]? = some t → ∀ k, k < 7 → (ts.flatMap TieD.cells)[j * 7 + k]? = t.cells[k]?
  | [], j, t, h, _, _ => by simp at h
  | s :: r, 0, t, h, k, hk => by
    simp at h; subst h
    rw [List.flatMap_cons, Nat.zero_mul, Nat.zero_add, List.getElem?_append_left (by simpa [TieD.cells] using hk)]
  | s :: r, j + 1, t, h, k, hk => by
    have h' : r[j]? = some t := by simpa using h
    rw [List.flatMap_cons, List.getElem?_append_right (by simp [TieD.cells]; omega), show (j + 1) * 7 + k - s.cells.length = j * 7 + k by simp [TieD.cells]; omega]
    exact cells_at r j t h' k hk

theorem len_cells (ts : List TieD) : (ts.flatMap TieD.cells).length = ts.length * 7 := by
  induction ts with
  | nil => rfl
  | cons a r ih => rw [List.flatMap_cons, List.length_append, ih]; simp [TieD.cells]; omega

/-- What a call of ours has laid reads as the list of ties. -/
theorem ties_of_owns {w : World} {base : Nat} {v : Value} {ts : List TieD} (h : w.ownsRow base 53 7 v ts.length (ts.flatMap TieD.cells)) : TiesAt w v ts := by
  rcases h.2 with ⟨hv, hn⟩ | ⟨g, cap, cur, hv, hg, hb, h1, h2, h3, h4⟩
  · refine ⟨none, 0, by rw [hv, hn], fun j t hj => ?_⟩
    have := (List.getElem?_eq_some_iff.1 hj).1
    omega
  · subst hv
    refine ⟨some ⟨g, 0, none⟩, cap, rfl, fun j t hj => ⟨g, rfl, ?_⟩⟩
    have hl := (List.getElem?_eq_some_iff.1 hj).1
    have hc : ∀ k, k < 7 → w.cell? ⟨g, j * 7 + k, none⟩ = t.cells[k]? := fun k hk => by
      rw [World.ownsRow.cellAt h (j * 7 + k) (by omega), cells_at ts j t hj k hk]
    exact ⟨hc 0 (by omega), hc 1 (by omega), hc 2 (by omega), hc 3 (by omega), hc 4 (by omega), hc 5 (by omega), hc 6 (by omega)⟩

theorem TiesAt.kept {w w' : World} {v : Value} {ts : List TieD} (h : TiesAt w v ts) (hb : ∀ k, v.ownBlock = some k → w'.heap[k]? = w.heap[k]?) : TiesAt w' v ts := by
  obtain ⟨a, cap, rfl, hc⟩ := h
  refine ⟨a, cap, rfl, fun j t hj => ?_⟩
  obtain ⟨g, rfl, ht⟩ := hc j t hj
  exact ⟨g, rfl, ht.kept (hb g rfl)⟩

theorem TiesAt.later {w w' : World} {v : Value} {ts : List TieD} (h : TiesAt w v ts) (hb : ∀ k, k < w.heap.size → w'.heap[k]? = w.heap[k]?) : TiesAt w' v ts := by
  obtain ⟨a, cap, rfl, hc⟩ := h
  refine ⟨a, cap, rfl, fun j t hj => ?_⟩
  obtain ⟨g, rfl, ht⟩ := hc j t hj
  exact ⟨g, rfl, ht.kept (hb g (World.block_lt_of_cell? w ⟨g, j * 7, none⟩ ht.c0))⟩

theorem TiesAt.lt {w : World} {v : Value} {ts : List TieD} (h : TiesAt w v ts) (hne : ts ≠ []) : ∃ g cap, v = .slice (some ⟨g, 0, none⟩) ts.length cap ∧ g < w.heap.size := by
  obtain ⟨a, cap, rfl, hc⟩ := h
  cases ts with
  | nil => exact absurd rfl hne
  | cons t r =>
    obtain ⟨g, rfl, ht⟩ := hc 0 t rfl
    exact ⟨g, cap, rfl, World.block_lt_of_cell? w ⟨g, 0 * 7, none⟩ ht.c0⟩

/-- The seven cells of a new block, as append's law asks for them. -/
theorem tie_news (w : World) (t : TieD) (e : TypeId) (N : Nat) (hN : N = w.heap.size) : ∀ j u, t.cells[j]? = some u → (w.alloc (.cells t.cells.toArray e)).cell? ((⟨N, 0, none⟩ : Addr).add j) = some u := by
  intro j u hj
  subst hN
  have e1 : ((⟨w.heap.size, 0, none⟩ : Addr).add j) = ⟨w.heap.size, j, none⟩ := by
    simp only [Addr.add, Nat.zero_add]
    split
    · rename_i h; subst h; rfl
    · rfl
  rw [e1, World.cell?_alloc_new]
  simpa using hj
theorem tie_oneCell (t : TieD) : ∀ u ∈ t.cells, u.oneCell' = true := by
  intro u hu
  simp [TieD.cells] at hu
  rcases hu with rfl | rfl | rfl | rfl | rfl | rfl | rfl <;> rfl

/-- In force on d. -/
def inF (F T d : Int) : Bool := decide (F ≤ d ∧ d ≤ T)
def onL (d : Int) (ts : List TieD) : List TieD := ts.filter fun t => inF t.F t.T d

theorem take_snoc {α : Type} (l : List α) (k : Nat) (x : α) (h : l[k]? = some x) : l.take (k + 1) = l.take k ++ [x] := by
  obtain ⟨hk, e⟩ := List.getElem?_eq_some_iff.1 h
  rw [List.take_succ_eq_append_getElem hk, e]

theorem onL_snoc (d : Int) (ts : List TieD) (k : Nat) (t : TieD) (h : ts[k]? = some t) : onL d (ts.take (k + 1)) = onL d (ts.take k) ++ (if inF t.F t.T d then [t] else []) := by
  rw [take_snoc ts k t h]
  unfold onL
  rw [List.filter_append]
  congr 1
  by_cases e : inF t.F t.T d <;> simp [e]

theorem onL_le (d : Int) (ts : List TieD) : (onL d ts).length ≤ ts.length := List.length_filter_le _ _

end Go.Proofs.YbulkagqaDoor
