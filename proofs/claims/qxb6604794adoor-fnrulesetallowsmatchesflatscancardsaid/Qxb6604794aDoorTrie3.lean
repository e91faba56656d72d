/- Laws of the tree: a node and its edge are added. -/
import Derived.Test.Qxb6604794aDoorTrie2
namespace Go.Proofs.Qxb6604794aDoor
open Go.RowKit

def Shape.grow (T : Shape) (p : List UInt8) (b : UInt8) (k g cap : Nat) : Shape where
  D q := T.D q ∨ q = p ++ [b]
  A q := if q = p ++ [b] then k else T.A q
  g q := if q = p ++ [b] then 0 else T.g q
  E q := if q = p then T.E p ++ [b] else if q = p ++ [b] then [] else T.E q
  V q := if q = p then .slice (some ⟨g, 0, none⟩) ((T.E p).length + 1) cap else if q = p ++ [b] then .slice none 0 0 else T.V q
  tag m := if m = k then .node (p ++ [b]) else if m = g then .row p else T.tag m

theorem snoc_ne (p : List UInt8) (b : UInt8) : p ≠ p ++ [b] := fun e => by
  have := congrArg List.length e
  simp at this

theorem snoc_inj {p q : List UInt8} {b c : UInt8} (h : p ++ [b] = q ++ [c]) : p = q ∧ b = c := by
  have := List.append_inj' h rfl
  exact ⟨this.1, by simpa using this.2⟩

theorem Trie.grow {B : Nat} {T : Shape} {N : Nat} {w : World} (h : Trie B T N w) {p : List UInt8} (hp : T.D p) {b : UInt8} (hb : b ∉ T.E p) {k g cap : Nat} {w4 : World}
    (hk : w.heap.size ≤ k) (hBk : B ≤ k) (hk4 : k < w4.heap.size) (hsz : w.heap.size ≤ w4.heap.size)
    (n0 : w4.cell? ⟨k, 0, none⟩ = some (.int .u8 0)) (n1 : w4.cell? ⟨k, 1, none⟩ = some (.slice none 0 0)) (nf : ∀ j, w4.frozen? ⟨k, j, none⟩ = false)
    (a0 : w4.cell? ⟨T.A p, 0, none⟩ = w.cell? ⟨T.A p, 0, none⟩) (a1 : w4.cell? ⟨T.A p, 1, none⟩ = some (.slice (some ⟨g, 0, none⟩) ((T.E p).length + 1) cap)) (af : ∀ j, w4.frozen? ⟨T.A p, j, none⟩ = false)
    (hrow : w4.ownsRow B 57 2 (.slice (some ⟨g, 0, none⟩) ((T.E p).length + 1) cap) ((T.E p).length + 1) (edgeCells T.A p (T.E p) ++ [.int .u8 b.toNat, .pointer (some ⟨k, 0, none⟩)]))
    (hg : (T.V p).ownBlock = some g ∨ (w.heap.size ≤ g ∧ g ≠ k))
    (hfar : ∀ m, m < w.heap.size → m ≠ T.A p → (T.V p).ownBlock ≠ some m → w4.heap[m]? = w.heap[m]?) :
    Trie B (T.grow p b k g cap) (N + 1) w4 := by
  have hnD : ¬ T.D (p ++ [b]) := fun e => hb ((h.kids p b hp).2 e)
  have hgA : ∀ q, T.D q → T.A q ≠ g := fun q hq e => by
    rcases hg with h1 | ⟨h1, _⟩
    · exact h.rowNe hq hp h1 e.symm
    · have := (h.addr q hq).2.1; omega
  have hAk : ∀ q, T.D q → T.A q ≠ k := fun q hq e => by have := (h.addr q hq).2.1; omega
  have hD : ∀ q, T.D q → q ≠ p ++ [b] := fun q hq e => hnD (e ▸ hq)
  have hcell : ∀ q, T.D q → q ≠ p → w4.heap[T.A q]? = w.heap[T.A q]? := fun q hq e =>
    hfar _ (h.addr q hq).2.1 (fun e2 => e (h.inj hq hp e2)) (fun e2 => h.rowNe hq hp e2 rfl)
  have hkg : g ≠ k := by
    rcases hg with h1 | ⟨_, h1⟩
    · have := (owns_lt (h.row p hp) h1).1; omega
    · exact h1
  refine ⟨.inl h.root, ?_, ?_, ?_, ?_, ?_, ?_, ?_, ?_, ?_⟩
  · -- addr
    rintro q (hq | rfl)
    · simp only [Shape.grow, if_neg (hD q hq), if_neg (hAk q hq), if_neg (hgA q hq)]
      exact ⟨(h.addr q hq).1, Nat.lt_of_lt_of_le (h.addr q hq).2.1 hsz, (h.addr q hq).2.2⟩
    · simp only [Shape.grow, if_true]
      exact ⟨hBk, hk4, trivial⟩
  · -- grant
    rintro q (hq | rfl)
    · simp only [Shape.grow, if_neg (hD q hq)]
      by_cases e : q = p
      · subst e; rw [a0]; exact h.grant q hq
      · rw [World.cell?_of_block (a := ⟨T.A q, 0, none⟩) (hcell q hq e)]; exact h.grant q hq
    · simp only [Shape.grow, if_true]; exact n0
  · -- next
    rintro q (hq | rfl)
    · by_cases e : q = p
      · subst e; simp only [Shape.grow, if_neg (hD q hq), if_true]; exact a1
      · simp only [Shape.grow, if_neg (hD q hq), if_neg e]
        rw [World.cell?_of_block (a := ⟨T.A q, 1, none⟩) (hcell q hq e)]; exact h.next q hq
    · simp only [Shape.grow, if_true, if_neg (snoc_ne p b).symm]; exact n1
  · -- free
    rintro q (hq | rfl) j
    · simp only [Shape.grow, if_neg (hD q hq)]
      by_cases e : q = p
      · subst e; exact af j
      · rw [World.frozen?_of_block (a := ⟨T.A q, j, none⟩) (hcell q hq e)]; exact h.free q hq j
    · simp only [Shape.grow, if_true]; exact nf j
  · -- row
    rintro q (hq | rfl)
    · by_cases e : q = p
      · subst e
        have e1 : edgeCells (T.grow q b k g cap).A q (T.E q) = edgeCells T.A q (T.E q) := edgeCells_congr (fun c hc => by
          have : q ++ [c] ≠ q ++ [b] := fun e2 => hb (by have e3 := (snoc_inj e2).2; rw [← e3]; exact hc)
          simp only [Shape.grow, if_neg this])
        have e2 : (T.grow q b k g cap).E q = T.E q ++ [b] := by simp only [Shape.grow, if_true]
        have e3 : (T.grow q b k g cap).A (q ++ [b]) = k := by simp only [Shape.grow, if_true]
        rw [e2, edgeCells_snoc, e1, e3]
        simp only [Shape.grow, if_true, List.length_append, List.length_singleton]
        exact hrow
      · have e1 : edgeCells (T.grow p b k g cap).A q (T.E q) = edgeCells T.A q (T.E q) := edgeCells_congr (fun c hc => by
          have : q ++ [c] ≠ p ++ [b] := fun e2 => e (snoc_inj e2).1
          simp only [Shape.grow, if_neg this])
        have e2 : (T.grow p b k g cap).E q = T.E q := by simp only [Shape.grow, if_neg e, if_neg (hD q hq)]
        have e3 : (T.grow p b k g cap).V q = T.V q := by simp only [Shape.grow, if_neg e, if_neg (hD q hq)]
        rw [e2, e3, e1]
        exact owns_far (h.row q hq) (fun m hm => hfar m (owns_lt (h.row q hq) hm).1 (h.rowNe hp hq hm) (fun e4 => e (h.rowInj hq hp hm e4)))
    · have e2 : (T.grow p b k g cap).E (p ++ [b]) = [] := by simp only [Shape.grow, if_true, if_neg (snoc_ne p b).symm]
      have e3 : (T.grow p b k g cap).V (p ++ [b]) = .slice none 0 0 := by simp only [Shape.grow, if_true, if_neg (snoc_ne p b).symm]
      rw [e2, e3]
      exact World.ownsRow_nil _ _ _ _
  · -- rowTag
    rintro q (hq | rfl) m hm
    · by_cases e : q = p
      · subst e
        simp only [Shape.grow, if_true, Value.ownBlock, Option.some.injEq] at hm
        subst hm
        simp only [Shape.grow, if_neg hkg, if_true]
      · have e3 : (T.grow p b k g cap).V q = T.V q := by simp only [Shape.grow, if_neg e, if_neg (hD q hq)]
        rw [e3] at hm
        have hlt := (owns_lt (h.row q hq) hm).1
        have hmg : m ≠ g := by
          rintro rfl
          rcases hg with h1 | ⟨h1, _⟩
          · exact e (h.rowInj hq hp hm h1)
          · omega
        have hmk : m ≠ k := by omega
        simp only [Shape.grow, if_neg hmk, if_neg hmg]
        exact h.rowTag q hq m hm
    · have e3 : (T.grow p b k g cap).V (p ++ [b]) = .slice none 0 0 := by simp only [Shape.grow, if_true, if_neg (snoc_ne p b).symm]
      rw [e3] at hm
      cases hm
  · -- kids
    rintro q c (hq | rfl)
    · by_cases e : q = p
      · subst e
        have e2 : (T.grow q b k g cap).E q = T.E q ++ [b] := by simp only [Shape.grow, if_true]
        rw [e2, List.mem_append, List.mem_singleton, h.kids q c hq]
        exact or_congr Iff.rfl ⟨fun e3 => by rw [e3], fun e3 => (snoc_inj e3).2⟩
      · have e2 : (T.grow p b k g cap).E q = T.E q := by simp only [Shape.grow, if_neg e, if_neg (hD q hq)]
        rw [e2, h.kids q c hq]
        exact ⟨.inl, fun h1 => h1.elim id (fun e3 => absurd (snoc_inj e3).1 e)⟩
    · have e2 : (T.grow p b k g cap).E (p ++ [b]) = [] := by simp only [Shape.grow, if_true, if_neg (snoc_ne p b).symm]
      rw [e2]
      refine ⟨fun h1 => absurd h1 (by simp), fun h1 => ?_⟩
      rcases h1 with h1 | h1
      · exact absurd (h.up _ _ h1) hnD
      · exact absurd h1 (snoc_ne _ c).symm
  · -- up
    rintro q c (hq | e)
    · exact .inl (h.up q c hq)
    · rw [(snoc_inj e).1]; exact .inl hp
  · -- short
    rintro q (hq | rfl)
    · by_cases e : q = p
      · subst e
        simp only [Shape.grow, if_true, List.length_append, List.length_singleton]
        have := h.short q hq
        omega
      · simp only [Shape.grow, if_neg e, if_neg (hD q hq)]
        have := h.short q hq
        omega
    · simp only [Shape.grow, if_true, if_neg (snoc_ne p b).symm]
      exact Nat.zero_le _
end Go.Proofs.Qxb6604794aDoor
