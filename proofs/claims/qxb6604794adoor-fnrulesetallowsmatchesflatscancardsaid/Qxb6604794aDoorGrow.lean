/- What a step of add leaves standing; the step that makes a node. -/
import Derived.Test.Qxb6604794aDoorTmpl
namespace Go.Proofs.Qxb6604794aDoor
open Go.RowKit

structure Step (B : Nat) (T : Shape) (w : World) (T' : Shape) (w' : World) : Prop where
  root : T'.A [] = T.A []
  sz : w.heap.size ≤ w'.heap.size
  two : w'.cell? ⟨T.A [], 2, none⟩ = w.cell? ⟨T.A [], 2, none⟩
  far : ∀ m, m < w.heap.size → (T.tag m = .tmpl ∨ ∃ j, T.tag m = .part j) → w'.heap[m]? = w.heap[m]? ∧ T'.tag m = T.tag m
  bel : Below B w w'

theorem Step.refl (B : Nat) (T : Shape) (w : World) : Step B T w T w := ⟨rfl, Nat.le_refl _, rfl, fun _ _ _ => ⟨rfl, rfl⟩, Below.refl _ _⟩
theorem Step.trans {B : Nat} {T T' T'' : Shape} {w w' w'' : World} (h : Step B T w T' w') (k : Step B T' w' T'' w'') : Step B T w T'' w'' where
  root := k.root.trans h.root
  sz := Nat.le_trans h.sz k.sz
  two := by rw [← h.two, ← h.root]; exact k.two
  far m hm ht := by
    obtain ⟨a1, a2⟩ := h.far m hm ht
    obtain ⟨b1, b2⟩ := k.far m (Nat.lt_of_lt_of_le hm h.sz) (by rw [a2]; exact ht)
    exact ⟨b1.trans a1, b2.trans a2⟩
  bel := h.bel.trans k.bel
theorem Step.of_below {B : Nat} {T : Shape} {w w' : World} (hr : T.A [] < w.heap.size) (hB : B ≤ w.heap.size) (hb : Below w.heap.size w w') : Step B T w T w' where
  root := rfl
  sz := hb.size
  two := hb.cell (p := ⟨T.A [], 2, none⟩) hr
  far m hm _ := ⟨hb.block m hm, rfl⟩
  bel := hb.mono hB

theorem Trie.more {B : Nat} {T : Shape} {N N' : Nat} {w : World} (h : Trie B T N w) (hN : N ≤ N') : Trie B T N' w :=
  { h with short := fun p hp => Nat.le_trans (h.short p hp) hN }

theorem Trie.base {B : Nat} {T : Shape} {N : Nat} {w : World} (h : Trie B T N w) : B ≤ w.heap.size := by
  have := h.addr [] h.root; omega

theorem Step.setGrant {B : Nat} {T : Shape} {N : Nat} {w : World} (h : Trie B T N w) {p : List UInt8} (hp : T.D p) (g : List UInt8 → Nat) (v : Value) :
    Step B T w { T with g := g } (w.setCell ⟨T.A p, 0, none⟩ v) where
  root := rfl
  sz := by simp
  two := World.cell?_setCell_other w ⟨T.A p, 0, none⟩ ⟨T.A [], 2, none⟩ _ (fun h => by injection h with h1 h2; omega)
  far m _ ht := ⟨Below.heap_setCell w _ _ m (fun e => by
    have e2 : m = T.A p := e
    rw [e2, (h.addr p hp).2.2] at ht
    rcases ht with h1 | ⟨_, h1⟩ <;> cases h1), rfl⟩
  bel := (Below.refl B w).setCell (h.addr p hp).1 v

theorem grow_step {B N : Nat} {T : Shape} {w3 w1 : World} {o : Obj} (h : Trie B T N w3) {p : List UInt8} (hp : T.D p) {b : UInt8} (hb : b ∉ T.E p) {gg cap : Nat}
    (hown1 : w1.ownsRow B 57 2 (.slice (some ⟨gg, 0, none⟩) ((T.E p).length + 1) cap) ((T.E p).length + 1) (edgeCells T.A p (T.E p) ++ [.int .u8 b.toNat, .pointer (some ⟨w3.heap.size, 0, none⟩)]))
    (hgrow : (((w3.alloc (Obj.cells #[Value.int IntKind.u8 0, Value.slice none 0 0] 41)).alloc o).drew).grownBy w1 (T.V p).ownBlock)
    (hat : (T.V p).ownBlock = some gg ∨ gg = (w3.alloc (Obj.cells #[Value.int IntKind.u8 0, Value.slice none 0 0] 41)).heap.size + 1) :
    Trie B (T.grow p b w3.heap.size gg cap) (N + 1) (w1.setCell ⟨T.A p, 1, none⟩ (.slice (some ⟨gg, 0, none⟩) ((T.E p).length + 1) cap)) ∧
    Step B T w3 (T.grow p b w3.heap.size gg cap) (w1.setCell ⟨T.A p, 1, none⟩ (.slice (some ⟨gg, 0, none⟩) ((T.E p).length + 1) cap)) := by
  have hB := h.base
  have hA := h.addr p hp
  have hVlt : ∀ k, (T.V p).ownBlock = some k → k < w3.heap.size ∧ B ≤ k := fun k hk => owns_lt (h.row p hp) hk
  generalize hw5 : w3.alloc (Obj.cells #[Value.int IntKind.u8 0, Value.slice none 0 0] 41) = w5 at hgrow hat
  have s5 : w5.heap.size = w3.heap.size + 1 := by rw [← hw5]; simp
  have s6 : ((w5.alloc o).drew).heap.size = w3.heap.size + 2 := by
    have : ((w5.alloc o).drew).heap.size = (w5.alloc o).heap.size := rfl
    rw [this]; simp [s5]
  have hsz1 : w3.heap.size + 2 ≤ w1.heap.size := by have := hgrow.size; omega
  have hE : ∀ m, m < w3.heap.size + 1 → (T.V p).ownBlock ≠ some m → w1.heap[m]? = w5.heap[m]? := fun m hm hne => by
    rw [hgrow.block m (by omega) (fun e => hne e.symm)]
    exact Below.heap_alloc w5 o m (by omega)
  have hE5 : ∀ m, m < w3.heap.size → w5.heap[m]? = w3.heap[m]? := fun m hm => by rw [← hw5]; exact Below.heap_alloc w3 _ m hm
  have hgA : gg ≠ T.A p := by
    rcases hat with h1 | h1
    · exact h.rowNe hp hp h1
    · omega
  have hVk : (T.V p).ownBlock ≠ some w3.heap.size := fun e => by have := (hVlt _ e).1; omega
  have hkb : w1.heap[w3.heap.size]? = some (Obj.cells #[Value.int IntKind.u8 0, Value.slice none 0 0] 41) := by
    rw [hE _ (by omega) hVk, ← hw5]; exact heap_alloc_new w3 _
  have hkA : w3.heap.size ≠ T.A p := by omega
  generalize hV' : Value.slice (some ⟨gg, 0, none⟩) ((T.E p).length + 1) cap = V'
  have hk4 : (w1.setCell ⟨T.A p, 1, none⟩ V').heap[w3.heap.size]? = some (Obj.cells #[Value.int IntKind.u8 0, Value.slice none 0 0] 41) := by
    rw [Below.heap_setCell w1 _ _ _ hkA]; exact hkb
  have hAV : (T.V p).ownBlock ≠ some (T.A p) := fun e => h.rowNe hp hp e rfl
  have hAb : w1.heap[T.A p]? = w3.heap[T.A p]? := by rw [hE _ (by omega) hAV, hE5 _ hA.2.1]
  have hfar : ∀ m, m < w3.heap.size → m ≠ T.A p → (T.V p).ownBlock ≠ some m → (w1.setCell ⟨T.A p, 1, none⟩ V').heap[m]? = w3.heap[m]? := fun m hm h1 h2 => by
    rw [Below.heap_setCell w1 _ _ _ h1, hE m (by omega) h2, hE5 m hm]
  have c1 : w1.cell? ⟨T.A p, 1, none⟩ = some (T.V p) := by rw [World.cell?_of_block (a := ⟨T.A p, 1, none⟩) hAb]; exact h.next p hp
  have hs4 : (w1.setCell ⟨T.A p, 1, none⟩ V').heap.size = w1.heap.size := by simp
  constructor
  · subst hV'
    refine h.grow hp hb (Nat.le_refl _) hB (by omega) (by omega) ?_ ?_ ?_ ?_ ?_ ?_ ?_ ?_ hfar
    · rw [cell_of_row _ _ _ _ _ _ hk4]; rfl
    · rw [cell_of_row _ _ _ _ _ _ hk4]; rfl
    · intro j
      simp [World.frozen?, hk4]
    · rw [World.cell?_setCell_other w1 ⟨T.A p, 1, none⟩ ⟨T.A p, 0, none⟩ _ (fun h => by injection h with h1 h2; omega)]
      exact World.cell?_of_block (a := ⟨T.A p, 0, none⟩) hAb
    · exact World.cell?_setCell_same _ _ _ c1
    · intro j
      rw [World.frozen?_setCell, World.frozen?_of_block (a := ⟨T.A p, j, none⟩) hAb]; exact h.free p hp j
    · exact owns_far hown1 (fun k hk => by
        obtain rfl : gg = k := by simpa [Value.ownBlock] using hk
        exact Below.heap_setCell w1 _ _ _ hgA)
    · rcases hat with h1 | h1
      · exact .inl h1
      · exact .inr (by omega)
  · refine ⟨?_, by omega, ?_, ?_, ?_⟩
    · have : ([] : List UInt8) ≠ p ++ [b] := by simp
      simp only [Shape.grow, if_neg this]
    · have hr := h.addr [] h.root
      rw [World.cell?_setCell_other w1 ⟨T.A p, 1, none⟩ ⟨T.A [], 2, none⟩ _ (fun h => by injection h with h1 h2; omega)]
      refine World.cell?_of_block (a := ⟨T.A [], 2, none⟩) ?_
      show w1.heap[T.A []]? = _
      rw [hE _ (by omega) (fun e => h.rowNe h.root hp e rfl), hE5 _ hr.2.1]
    · intro m hm ht
      have hmA : m ≠ T.A p := fun e => by
        rw [e, hA.2.2] at ht
        rcases ht with h1 | ⟨_, h1⟩ <;> cases h1
      have hmV : (T.V p).ownBlock ≠ some m := fun e => by
        rw [h.rowTag p hp m e] at ht
        rcases ht with h1 | ⟨_, h1⟩ <;> cases h1
      refine ⟨hfar m hm hmA hmV, ?_⟩
      have hmk : m ≠ w3.heap.size := by omega
      have hmg : m ≠ gg := by
        rintro rfl
        rcases hat with h1 | h1
        · exact hmV h1
        · omega
      simp only [Shape.grow, if_neg hmk, if_neg hmg]
    · have b5 : Below B w3 w5 := by rw [← hw5]; exact (Below.refl B w3).alloc hB _
      have b6 : Below B w3 ((w5.alloc o).drew) := (b5.alloc (by omega) o).drew
      exact (b6.grown hgrow (by omega) (fun k hk => (hVlt k hk).2)).setCell hA.1 _
end Go.Proofs.Qxb6604794aDoor
