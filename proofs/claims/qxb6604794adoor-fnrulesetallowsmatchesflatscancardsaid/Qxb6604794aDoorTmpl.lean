/- The templates in memory, beside the tree. -/
import Derived.Test.Qxb6604794aDoorLib
namespace Go.Proofs.Qxb6604794aDoor
open Go.RowKit

/-- a template: its grant, its prefix, the block of its parts -/
structure Tp where
  g : Nat
  pre : ByteArray
  blk : Nat

def tmCells : List Tp → List Value
  | [] => []
  | t :: ts => .int .u8 t.g :: .slice (some ⟨t.blk, 0, none⟩) (parts t.pre).length (parts t.pre).length :: tmCells ts
theorem tmCells_len : ∀ ts : List Tp, (tmCells ts).length = ts.length * 2
  | [] => rfl
  | t :: ts => by simp [tmCells, tmCells_len ts]; omega
theorem tmCells_snoc (t : Tp) : ∀ ts : List Tp, tmCells (ts ++ [t]) = tmCells ts ++ [.int .u8 t.g, .slice (some ⟨t.blk, 0, none⟩) (parts t.pre).length (parts t.pre).length]
  | [] => rfl
  | c :: ts => by simp [tmCells, tmCells_snoc t ts]

structure Tm (B : Nat) (T : Shape) (ts : List Tp) (VT : Value) (w : World) : Prop where
  cell : w.cell? ⟨T.A [], 2, none⟩ = some VT
  row : w.ownsRow B 52 2 VT ts.length (tmCells ts)
  tag : ∀ k, VT.ownBlock = some k → T.tag k = .tmpl
  part : ∀ (j : Nat) (t : Tp), ts[j]? = some t → T.tag t.blk = .part j ∧ t.blk < w.heap.size ∧ w.heap[t.blk]? = some (.cells ((parts t.pre).map Value.string).toArray 9)

theorem Tm.below {B : Nat} {T : Shape} {ts : List Tp} {VT : Value} {w w' : World} (h : Tm B T ts VT w) (hr : T.A [] < w.heap.size) (hb : Below w.heap.size w w') : Tm B T ts VT w' where
  cell := by rw [hb.cell (p := ⟨T.A [], 2, none⟩) hr]; exact h.cell
  row := owns_below h.row hb
  tag := h.tag
  part j t ht := ⟨(h.part j t ht).1, Nat.lt_of_lt_of_le (h.part j t ht).2.1 hb.size, by rw [hb.block _ (h.part j t ht).2.1]; exact (h.part j t ht).2.2⟩

/-- the templates stand when the tree's own blocks are touched alone -/
theorem Tm.far {B : Nat} {T T' : Shape} {ts : List Tp} {VT : Value} {w w' : World} (h : Tm B T ts VT w) (hA : T'.A [] = T.A []) (hsz : w.heap.size ≤ w'.heap.size) (hc : w'.cell? ⟨T.A [], 2, none⟩ = w.cell? ⟨T.A [], 2, none⟩)
    (ht : ∀ m, m < w.heap.size → (T.tag m = .tmpl ∨ ∃ j, T.tag m = .part j) → w'.heap[m]? = w.heap[m]? ∧ T'.tag m = T.tag m) : Tm B T' ts VT w' where
  cell := by rw [hA, hc]; exact h.cell
  row := owns_far h.row (fun k hk => (ht k (owns_lt h.row hk).1 (.inl (h.tag k hk))).1)
  tag k hk := by rw [(ht k (owns_lt h.row hk).1 (.inl (h.tag k hk))).2]; exact h.tag k hk
  part j t htj := by
    obtain ⟨h1, h2, h3⟩ := h.part j t htj
    obtain ⟨e1, e2⟩ := ht t.blk h2 (.inr ⟨j, h1⟩)
    exact ⟨by rw [e2]; exact h1, Nat.lt_of_lt_of_le h2 hsz, by rw [e1]; exact h3⟩
end Go.Proofs.Qxb6604794aDoor
