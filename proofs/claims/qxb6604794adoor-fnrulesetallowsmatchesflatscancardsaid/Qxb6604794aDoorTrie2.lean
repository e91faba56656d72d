/- Laws of the tree: a grant is set. -/
import Derived.Test.Qxb6604794aDoorSplit
namespace Go.Proofs.Qxb6604794aDoor
open Go.RowKit

theorem Trie.inj {B : Nat} {T : Shape} {N : Nat} {w : World} (h : Trie B T N w) {p q : List UInt8} (hp : T.D p) (hq : T.D q) (e : T.A p = T.A q) : p = q := by
  have h1 := (h.addr p hp).2.2
  have h2 := (h.addr q hq).2.2
  rw [e, h2] at h1
  cases h1; rfl
theorem Trie.rowNe {B : Nat} {T : Shape} {N : Nat} {w : World} (h : Trie B T N w) {p q : List UInt8} (hp : T.D p) (hq : T.D q) {k : Nat} (hk : (T.V q).ownBlock = some k) : k ≠ T.A p := by
  intro e
  have h1 := h.rowTag q hq k hk
  rw [e, (h.addr p hp).2.2] at h1
  cases h1
theorem Trie.rowInj {B : Nat} {T : Shape} {N : Nat} {w : World} (h : Trie B T N w) {p q : List UInt8} (hp : T.D p) (hq : T.D q) {k : Nat} (hk : (T.V p).ownBlock = some k) (hk2 : (T.V q).ownBlock = some k) : p = q := by
  have h1 := h.rowTag p hp k hk
  have h2 := h.rowTag q hq k hk2
  rw [h2] at h1
  cases h1; rfl

theorem owns_far {w w' : World} {B e s n : Nat} {v : Value} {xs : List Value} (h : w.ownsRow B e s v n xs) (hb : ∀ k, v.ownBlock = some k → w'.heap[k]? = w.heap[k]?) : w'.ownsRow B e s v n xs := by
  refine ⟨h.1, ?_⟩
  rcases h.2 with h0 | ⟨g, cap, cur, rfl, hB, hg, h3⟩
  · exact .inl h0
  · exact .inr ⟨g, cap, cur, rfl, hB, by rw [hb g rfl]; exact hg, h3⟩

theorem Trie.setGrant {B : Nat} {T : Shape} {N : Nat} {w : World} (h : Trie B T N w) {p : List UInt8} (hp : T.D p) (v : Nat) :
    Trie B { T with g := fun q => if q = p then v else T.g q } N (w.setCell ⟨T.A p, 0, none⟩ (.int .u8 v)) where
  root := h.root
  addr q hq := ⟨(h.addr q hq).1, by simpa using (h.addr q hq).2.1, (h.addr q hq).2.2⟩
  grant q hq := by
    by_cases e : q = p
    · subst e
      rw [World.cell?_setCell_same _ _ _ (h.grant q hq)]; simp
    · have hne : T.A q ≠ T.A p := fun e2 => e (h.inj hq hp e2)
      rw [World.cell?_setCell_other w ⟨T.A p, 0, none⟩ ⟨T.A q, 0, none⟩ _ (fun h => hne (by injection h with h1; omega)), h.grant q hq]
      simp [e]
  next q hq := by
    rw [World.cell?_setCell_other w ⟨T.A p, 0, none⟩ ⟨T.A q, 1, none⟩ _ (fun h => by injection h with h1 h2; omega)]
    exact h.next q hq
  free q hq j := by rw [World.frozen?_setCell]; exact h.free q hq j
  row q hq := owns_far (h.row q hq) (fun k hk => Below.heap_setCell w _ _ k (h.rowNe hp hq hk))
  rowTag := h.rowTag
  kids := h.kids
  up := h.up
  short := h.short
end Go.Proofs.Qxb6604794aDoor
