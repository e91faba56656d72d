/- The tree of prefixes in memory: a ghost map from paths to nodes. -/
import Derived.Test.Qxb6604794aDoorLeaf
import Derived.Deep.AppendLies
namespace Go.Proofs.Qxb6604794aDoor
open Go.RowKit

/-- to what a block belongs -/
inductive Tag where
  | node (p : List UInt8)
  | row (p : List UInt8)
  | tmpl
  | part (j : Nat)
  | other

/-- the ghost state: which paths have a node, where it lies, its grant, its edges' bytes, its row's value -/
structure Shape where
  D : List UInt8 → Prop
  A : List UInt8 → Nat
  g : List UInt8 → Nat
  E : List UInt8 → List UInt8
  V : List UInt8 → Value
  tag : Nat → Tag

def edgeCells (A : List UInt8 → Nat) (p : List UInt8) : List UInt8 → List Value
  | [] => []
  | b :: t => .int .u8 b.toNat :: .pointer (some ⟨A (p ++ [b]), 0, none⟩) :: edgeCells A p t

structure Trie (B : Nat) (T : Shape) (N : Nat) (w : World) : Prop where
  root : T.D []
  addr : ∀ p, T.D p → B ≤ T.A p ∧ T.A p < w.heap.size ∧ T.tag (T.A p) = .node p
  grant : ∀ p, T.D p → w.cell? ⟨T.A p, 0, none⟩ = some (.int .u8 (T.g p))
  next : ∀ p, T.D p → w.cell? ⟨T.A p, 1, none⟩ = some (T.V p)
  free : ∀ p, T.D p → ∀ j, w.frozen? ⟨T.A p, j, none⟩ = false
  row : ∀ p, T.D p → w.ownsRow B 57 2 (T.V p) (T.E p).length (edgeCells T.A p (T.E p))
  rowTag : ∀ p, T.D p → ∀ k, (T.V p).ownBlock = some k → T.tag k = .row p
  kids : ∀ p b, T.D p → (b ∈ T.E p ↔ T.D (p ++ [b]))
  up : ∀ p b, T.D (p ++ [b]) → T.D p
  short : ∀ p, T.D p → (T.E p).length ≤ N

theorem edgeCells_len (A : List UInt8 → Nat) (p : List UInt8) : ∀ l : List UInt8, (edgeCells A p l).length = l.length * 2
  | [] => rfl
  | b :: t => by simp [edgeCells, edgeCells_len A p t]; omega
theorem edgeCells_snoc (A : List UInt8 → Nat) (p : List UInt8) (b : UInt8) : ∀ l : List UInt8, edgeCells A p (l ++ [b]) = edgeCells A p l ++ [.int .u8 b.toNat, .pointer (some ⟨A (p ++ [b]), 0, none⟩)]
  | [] => rfl
  | c :: t => by simp [edgeCells, edgeCells_snoc A p b t]
theorem edgeCells_get (A : List UInt8 → Nat) (p : List UInt8) : ∀ (l : List UInt8) (j : Nat) (h : j < l.length), (edgeCells A p l)[2 * j]? = some (.int .u8 l[j].toNat) ∧ (edgeCells A p l)[2 * j + 1]? = some (.pointer (some ⟨A (p ++ [l[j]]), 0, none⟩))
  | [], _, h => absurd h (Nat.not_lt_zero _)
  | b :: t, 0, _ => ⟨rfl, rfl⟩
  | b :: t, j + 1, h => by
    have ih := edgeCells_get A p t j (by simpa using h)
    have e1 : 2 * (j + 1) = 2 * j + 1 + 1 := by omega
    rw [e1]
    simpa [edgeCells] using ih
/-- the cells speak of the children's addresses alone -/
theorem edgeCells_congr {A A' : List UInt8 → Nat} {p : List UInt8} : ∀ {l : List UInt8}, (∀ b ∈ l, A (p ++ [b]) = A' (p ++ [b])) → edgeCells A p l = edgeCells A' p l
  | [], _ => rfl
  | b :: t, h => by
    rw [edgeCells, edgeCells, h b (by simp), edgeCells_congr (l := t) (fun c hc => h c (by simp [hc]))]

/-- a row's block lies below the heap's end -/
theorem owns_lt {w : World} {B e s n k : Nat} {v : Value} {xs : List Value} (h : w.ownsRow B e s v n xs) (hk : v.ownBlock = some k) : k < w.heap.size ∧ B ≤ k := by
  rcases h.2 with ⟨rfl, _⟩ | ⟨g, cap, cur, rfl, hb, hg, _⟩
  · cases hk
  · obtain rfl : g = k := by simpa [Value.ownBlock] using hk
    refine ⟨?_, hb⟩
    rcases Nat.lt_or_ge g w.heap.size with h1 | h1
    · exact h1
    · rw [Array.getElem?_eq_none h1] at hg; cases hg

theorem owns_below {w w' : World} {B e s n : Nat} {v : Value} {xs : List Value} (h : w.ownsRow B e s v n xs) (hb : Below w.heap.size w w') : w'.ownsRow B e s v n xs := by
  refine ⟨h.1, ?_⟩
  rcases h.2 with h0 | ⟨g, cap, cur, rfl, hB, hg, h3⟩
  · exact .inl h0
  · refine .inr ⟨g, cap, cur, rfl, hB, ?_, h3⟩
    rw [hb.block g (owns_lt h rfl).1]; exact hg

theorem Trie.below {B : Nat} {T : Shape} {N : Nat} {w w' : World} (h : Trie B T N w) (hb : Below w.heap.size w w') : Trie B T N w' where
  root := h.root
  addr p hp := ⟨(h.addr p hp).1, Nat.lt_of_lt_of_le (h.addr p hp).2.1 hb.size, (h.addr p hp).2.2⟩
  grant p hp := by rw [hb.cell (p := ⟨T.A p, 0, none⟩) (h.addr p hp).2.1]; exact h.grant p hp
  next p hp := by rw [hb.cell (p := ⟨T.A p, 1, none⟩) (h.addr p hp).2.1]; exact h.next p hp
  free p hp j := by rw [hb.frozen (p := ⟨T.A p, j, none⟩) (h.addr p hp).2.1]; exact h.free p hp j
  row p hp := owns_below (h.row p hp) hb
  rowTag := h.rowTag
  kids := h.kids
  up := h.up
  short := h.short
end Go.Proofs.Qxb6604794aDoor
