import Derived.Test.YbulkagtgC4
import Derived.Deep.RegionHeld3
namespace Go.Proofs.Ybulkagtg
open Go.RowKit Go.Lib
set_option linter.unusedVariables false

/-- What the market keeps, beside the pool: the best level of each side, the lot, the pool's place, the two levels. -/
structure MktAt (w : World) (bm bp bl sl bo so : Nat) (pb ps lot : Nat) (vb vs : Option Addr) : Prop where
  bb : w.cell? ⟨bm, 2, none⟩ = some (.pointer vb)
  sb : w.cell? ⟨bm, 5, none⟩ = some (.pointer vs)
  lo : w.cell? ⟨bm, 20, none⟩ = some (.int .i64 lot)
  po : w.cell? ⟨bm, 21, none⟩ = some (.pointer (some ⟨bp, 0, none⟩))
  bpr : w.cell? ⟨bl, 0, none⟩ = some (.int .i64 pb)
  bhd : w.cell? ⟨bl, 1, none⟩ = some (.pointer (some ⟨bo, 0, none⟩))
  spr : w.cell? ⟨sl, 0, none⟩ = some (.int .i64 ps)
  shd : w.cell? ⟨sl, 1, none⟩ = some (.pointer (some ⟨so, 0, none⟩))
  ml : bm < w.heap.size
  bll : bl < w.heap.size
  sll : sl < w.heap.size
  mp : bm ≠ bp
  bp' : bl ≠ bp
  sp : sl ≠ bp

theorem MktAt.kept {w w' : World} {bm bp bl sl bo so pb ps lot : Nat} {vb vs : Option Addr} (h : MktAt w bm bp bl sl bo so pb ps lot vb vs) (hz : w.heap.size ≤ w'.heap.size) (hk : ∀ k, k < w.heap.size → k ≠ bp → w'.heap[k]? = w.heap[k]?) : MktAt w' bm bp bl sl bo so pb ps lot vb vs := by
  have c : ∀ k o, k < w.heap.size → k ≠ bp → w'.cell? ⟨k, o, none⟩ = w.cell? ⟨k, o, none⟩ := fun k o h1 h2 => World.cell?_of_block (a := ⟨k, o, none⟩) (hk k h1 h2)
  exact ⟨(c _ _ h.ml h.mp).trans h.bb, (c _ _ h.ml h.mp).trans h.sb, (c _ _ h.ml h.mp).trans h.lo, (c _ _ h.ml h.mp).trans h.po, (c _ _ h.bll h.bp').trans h.bpr, (c _ _ h.bll h.bp').trans h.bhd, (c _ _ h.sll h.sp).trans h.spr, (c _ _ h.sll h.sp).trans h.shd, Nat.lt_of_lt_of_le h.ml hz, Nat.lt_of_lt_of_le h.bll hz, Nat.lt_of_lt_of_le h.sll hz, h.mp, h.bp', h.sp⟩

/-- Which order is next (1 the buy, 2 the sell, 0 none), and the tie kept behind it. -/
def pickOf (hb hs : Bool) (c1 c2 v : Int) : Int :=
  if hb = true ∧ c1 < 0 then (if hs = true ∧ 0 < c2 then (if v = 2 then 2 else 1) else 1) else if hs = true ∧ 0 < c2 then 2 else 0
def pickTie (hb hs : Bool) (c1 c2 t t' : Int) : Int := if hb = true ∧ c1 < 0 ∧ hs = true ∧ 0 < c2 then t' else t
def ptrOf (bo so : Nat) (k : Int) : Option Addr := if k = 1 then some ⟨bo, 0, none⟩ else if k = 2 then some ⟨so, 0, none⟩ else none

theorem PoolAt.drewN {w : World} {bp B Q : Nat} {t : Int} (h : PoolAt w bp B Q t) (n : Nat) : PoolAt (w.drewN n) bp B Q t := ⟨h.base, h.quote, h.tie, h.soft, h.lt⟩

theorem MktAt.belowS {w w' : World} {bm bp bl sl bo so pb ps lot : Nat} {vb vs : Option Addr} (h : MktAt w bm bp bl sl bo so pb ps lot vb vs) (hb : Below w.heap.size w w') : MktAt w' bm bp bl sl bo so pb ps lot vb vs :=
  h.kept hb.size (fun k hk _ => hb.block k hk)
theorem done_of {w w' : World} {bp B Q : Nat} {t : Int} (hp : PoolAt w bp B Q t) (h : Below w.heap.size w w') : PoolAt w' bp B Q t ∧ Below bp w w' ∧ (∀ k, k < w.heap.size → k ≠ bp → w'.heap[k]? = w.heap[k]?) :=
  ⟨hp.below h, h.mono (Nat.le_of_lt hp.lt), fun k hk _ => h.block k hk⟩
end Go.Proofs.Ybulkagtg
