/- The templates grow by one. -/
import Derived.Test.Qxb6604794aDoorGrow
namespace Go.Proofs.Qxb6604794aDoor
open Go.RowKit

theorem Trie.retag {B : Nat} {T : Shape} {N : Nat} {w w' : World} (h : Trie B T N w) (tag' : Nat → Tag) (hsz : w.heap.size ≤ w'.heap.size)
    (hA : ∀ p, T.D p → w'.cell? ⟨T.A p, 0, none⟩ = w.cell? ⟨T.A p, 0, none⟩ ∧ w'.cell? ⟨T.A p, 1, none⟩ = w.cell? ⟨T.A p, 1, none⟩ ∧ ∀ j, w'.frozen? ⟨T.A p, j, none⟩ = w.frozen? ⟨T.A p, j, none⟩)
    (hrow : ∀ m p, m < w.heap.size → T.tag m = .row p → w'.heap[m]? = w.heap[m]?)
    (htag : ∀ m p, m < w.heap.size → (T.tag m = .node p ∨ T.tag m = .row p) → tag' m = T.tag m) : Trie B { T with tag := tag' } N w' where
  root := h.root
  addr p hp := ⟨(h.addr p hp).1, Nat.lt_of_lt_of_le (h.addr p hp).2.1 hsz, (htag _ p (h.addr p hp).2.1 (.inl (h.addr p hp).2.2)).trans (h.addr p hp).2.2⟩
  grant p hp := by rw [(hA p hp).1]; exact h.grant p hp
  next p hp := by rw [(hA p hp).2.1]; exact h.next p hp
  free p hp j := by rw [(hA p hp).2.2 j]; exact h.free p hp j
  row p hp := owns_far (h.row p hp) (fun k hk => hrow k p (owns_lt (h.row p hp) hk).1 (h.rowTag p hp k hk))
  rowTag p hp k hk := (htag k p (owns_lt (h.row p hp) hk).1 (.inr (h.rowTag p hp k hk))).trans (h.rowTag p hp k hk)
  kids := h.kids
  up := h.up
  short := h.short

theorem tmpl_step {B N : Nat} {T : Shape} {ts : List Tp} {VT : Value} {w w1 : World} {o : Obj} (h : Trie B T N w) (hm : Tm B T ts VT w) (p : ByteArray) (gr : Nat) {gg cap : Nat}
    (hown1 : w1.ownsRow B 52 2 (.slice (some ⟨gg, 0, none⟩) (ts.length + 1) cap) (ts.length + 1) (tmCells ts ++ [.int .u8 gr, .slice (some ⟨w.heap.size, 0, none⟩) (parts p).length (parts p).length]))
    (hgrow : (((w.alloc (.cells ((parts p).map Value.string).toArray 9)).alloc o).drew).grownBy w1 VT.ownBlock)
    (hat : VT.ownBlock = some gg ∨ gg = (w.alloc (.cells ((parts p).map Value.string).toArray 9)).heap.size + 1) :
    ∃ T' VT' tp, Trie B T' N (w1.setCell ⟨T.A [], 2, none⟩ (.slice (some ⟨gg, 0, none⟩) (ts.length + 1) cap)) ∧
      Tm B T' (ts ++ [tp]) VT' (w1.setCell ⟨T.A [], 2, none⟩ (.slice (some ⟨gg, 0, none⟩) (ts.length + 1) cap)) ∧
      Below B w (w1.setCell ⟨T.A [], 2, none⟩ (.slice (some ⟨gg, 0, none⟩) (ts.length + 1) cap)) ∧
      T'.D = T.D ∧ T'.g = T.g ∧ T'.A = T.A ∧ tp.g = gr ∧ tp.pre = p := by
  have hB := h.base
  have hA := h.addr [] h.root
  have hVlt : ∀ k, VT.ownBlock = some k → k < w.heap.size ∧ B ≤ k := fun k hk => owns_lt hm.row hk
  generalize hw5 : w.alloc (.cells ((parts p).map Value.string).toArray 9) = w5 at hgrow hat
  have s5 : w5.heap.size = w.heap.size + 1 := by rw [← hw5]; simp
  have s6 : ((w5.alloc o).drew).heap.size = w.heap.size + 2 := by
    have : ((w5.alloc o).drew).heap.size = (w5.alloc o).heap.size := rfl
    rw [this]; simp [s5]
  have hsz1 : w.heap.size + 2 ≤ w1.heap.size := by have := hgrow.size; omega
  have hE : ∀ m, m < w.heap.size + 1 → VT.ownBlock ≠ some m → w1.heap[m]? = w5.heap[m]? := fun m hm hne => by
    rw [hgrow.block m (by omega) (fun e => hne e.symm)]
    exact Below.heap_alloc w5 o m (by omega)
  have hE5 : ∀ m, m < w.heap.size → w5.heap[m]? = w.heap[m]? := fun m hm => by rw [← hw5]; exact Below.heap_alloc w _ m hm
  have hVA : VT.ownBlock ≠ some (T.A []) := fun e => by
    have := hm.tag _ e
    rw [hA.2.2] at this; cases this
  have hgA : gg ≠ T.A [] := by
    rcases hat with h1 | h1
    · exact fun e => hVA (by rw [h1, e])
    · omega
  have hgk : gg ≠ w.heap.size := by
    rcases hat with h1 | h1
    · have := (hVlt _ h1).1; omega
    · omega
  have hVk : VT.ownBlock ≠ some w.heap.size := fun e => by have := (hVlt _ e).1; omega
  have hkb : w1.heap[w.heap.size]? = some (.cells ((parts p).map Value.string).toArray 9) := by
    rw [hE _ (by omega) hVk, ← hw5]; exact heap_alloc_new w _
  have hkA : w.heap.size ≠ T.A [] := by omega
  generalize hV' : Value.slice (some ⟨gg, 0, none⟩) (ts.length + 1) cap = V' at hown1
  have hAb : w1.heap[T.A []]? = w.heap[T.A []]? := by rw [hE _ (by omega) hVA, hE5 _ hA.2.1]
  have hfar : ∀ m, m < w.heap.size → m ≠ T.A [] → VT.ownBlock ≠ some m → (w1.setCell ⟨T.A [], 2, none⟩ V').heap[m]? = w.heap[m]? := fun m hm h1 h2 => by
    rw [Below.heap_setCell w1 _ _ _ h1, hE m (by omega) h2, hE5 m hm]
  have hs4 : (w1.setCell ⟨T.A [], 2, none⟩ V').heap.size = w1.heap.size := by simp
  have c2 : w1.cell? ⟨T.A [], 2, none⟩ = some VT := by rw [World.cell?_of_block (a := ⟨T.A [], 2, none⟩) hAb]; exact hm.cell
  refine ⟨{ T with tag := fun m => if m = w.heap.size then .part ts.length else if m = gg then .tmpl else T.tag m }, V', ⟨gr, p, w.heap.size⟩, ?_, ?_, ?_, rfl, rfl, rfl, rfl, rfl⟩
  · refine h.retag _ (by omega) ?_ ?_ ?_
    · intro q hq
      by_cases e : q = []
      · subst e
        refine ⟨?_, ?_, fun j => ?_⟩
        · rw [World.cell?_setCell_other w1 ⟨T.A [], 2, none⟩ ⟨T.A [], 0, none⟩ _ (fun h => by injection h with h1 h2; omega)]
          exact World.cell?_of_block (a := ⟨T.A [], 0, none⟩) hAb
        · rw [World.cell?_setCell_other w1 ⟨T.A [], 2, none⟩ ⟨T.A [], 1, none⟩ _ (fun h => by injection h with h1 h2; omega)]
          exact World.cell?_of_block (a := ⟨T.A [], 1, none⟩) hAb
        · rw [World.frozen?_setCell]; exact World.frozen?_of_block (a := ⟨T.A [], j, none⟩) hAb
      · have hb := hfar (T.A q) (h.addr q hq).2.1 (fun e2 => e (h.inj hq h.root e2)) (fun e2 => by
          have := hm.tag _ e2
          rw [(h.addr q hq).2.2] at this; cases this)
        exact ⟨World.cell?_of_block (a := ⟨T.A q, 0, none⟩) hb, World.cell?_of_block (a := ⟨T.A q, 1, none⟩) hb, fun j => World.frozen?_of_block (a := ⟨T.A q, j, none⟩) hb⟩
    · intro m q hlt ht
      refine hfar m hlt (fun e => ?_) (fun e => ?_)
      · rw [e, hA.2.2] at ht; cases ht
      · rw [hm.tag m e] at ht; cases ht
    · intro m q hlt ht
      have h1 : m ≠ w.heap.size := by omega
      have h2 : m ≠ gg := by
        rintro rfl
        rcases hat with h3 | h3
        · rw [hm.tag m h3] at ht
          rcases ht with h4 | h4 <;> cases h4
        · omega
      simp only [if_neg h1, if_neg h2]
  · refine ⟨?_, ?_, ?_, ?_⟩
    · exact World.cell?_setCell_same _ _ _ c2
    · rw [tmCells_snoc, List.length_append, List.length_singleton]
      refine owns_far hown1 (fun k hk => ?_)
      rw [← hV'] at hk
      obtain rfl : gg = k := by simpa [Value.ownBlock] using hk
      exact Below.heap_setCell w1 _ _ _ hgA
    · intro k hk
      rw [← hV'] at hk
      obtain rfl : gg = k := by simpa [Value.ownBlock] using hk
      simp only [if_neg hgk, if_true]
    · intro j t ht
      rcases Nat.lt_or_ge j ts.length with hj | hj
      · rw [List.getElem?_append_left hj] at ht
        obtain ⟨e1, e2, e3⟩ := hm.part j t ht
        have n1 : t.blk ≠ w.heap.size := by omega
        have n2 : VT.ownBlock ≠ some t.blk := fun e => by
          have := hm.tag _ e
          rw [e1] at this; cases this
        have n3 : t.blk ≠ gg := by
          intro e
          rcases hat with h3 | h3
          · exact n2 (by rw [h3, e])
          · omega
        have n4 : t.blk ≠ T.A [] := fun e => by
          rw [e, hA.2.2] at e1; cases e1
        refine ⟨?_, by omega, ?_⟩
        · simp only [if_neg n1, if_neg n3]; exact e1
        · rw [hfar _ e2 n4 n2]; exact e3
      · rw [List.getElem?_append_right hj] at ht
        have hj0 : j - ts.length = 0 := by
          rcases Nat.eq_zero_or_pos (j - ts.length) with h0 | h0
          · exact h0
          · rw [List.getElem?_eq_none (by simp; omega)] at ht; cases ht
        rw [hj0] at ht
        obtain rfl : (⟨gr, p, w.heap.size⟩ : Tp) = t := by simpa using ht
        refine ⟨?_, ?_, ?_⟩
        · have : j = ts.length := by omega
          simp only [if_true, this]
        · show w.heap.size < _
          omega
        · show (w1.setCell ⟨T.A [], 2, none⟩ V').heap[w.heap.size]? = _
          rw [Below.heap_setCell w1 _ _ _ hkA]; exact hkb
  · have b5 : Below B w w5 := by rw [← hw5]; exact (Below.refl B w).alloc hB _
    have b6 : Below B w ((w5.alloc o).drew) := (b5.alloc (by omega) o).drew
    exact (b6.grown hgrow (by omega) (fun k hk => (hVlt k hk).2)).setCell hA.1 _
end Go.Proofs.Qxb6604794aDoor
