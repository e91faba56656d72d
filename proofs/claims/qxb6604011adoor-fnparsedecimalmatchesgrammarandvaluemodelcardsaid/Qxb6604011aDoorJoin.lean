/-
  'append(xs, ys...)' on two rows of bytes: one continuation, whether there was room or not.
-/
import Derived.Test.Qxb6604011aDoorAddB
import Derived.ArgAppend
import Derived.OwnWalk
import Derived.Laws.IdiomCopy
namespace Go.Proofs.Qxb6604011aDoor
open Go.RowKit

def vals (L : List UInt8) : List Value := L.map fun b => Value.int .u8 b.toNat

theorem add_pl (b off i : Nat) : (⟨b, off, none⟩ : Addr).add i = ⟨b, off + i, none⟩ := by unfold Addr.add; simp
theorem vals_len (L : List UInt8) : (vals L).length = L.length := by simp [vals]
theorem vals_app (L M : List UInt8) : vals L ++ vals M = vals (L ++ M) := by simp [vals]

theorem vals_at {L : List UInt8} {j : Nat} {u : Value} (h : (vals L)[j]? = some u) : j < L.length ∧ u = .int .u8 (L.getD j 0).toNat := by
  unfold vals at h
  rw [List.getElem?_map] at h
  cases hj : L[j]? with
  | none => rw [hj] at h; cases h
  | some c =>
    rw [hj] at h
    obtain ⟨h1, h2⟩ := List.getElem?_eq_some_iff.1 hj
    refine ⟨h1, ?_⟩
    rw [getD_of_lt h1, h2]
    simpa using h.symm

theorem Row.vals {g : Nat} {L : List UInt8} {w : World} (h : Row g L w) : ∀ (j : Nat) (u : Value), (vals L)[j]? = some u → w.cell? ⟨g, j, none⟩ = some u := by
  intro j u hu
  obtain ⟨h1, rfl⟩ := vals_at hu
  exact h.cell j h1

theorem below_setCells' {B b : Nat} {a : World} (hb : B ≤ b) : ∀ (vs : List Value) (o : Nat) (w : World), Below B a w → Below B a (w.setCells b o vs)
  | [], _, _, h => h
  | v :: r, o, _, h => below_setCells' hb r (o + 1) _ (h.setCell hb v)

theorem Tryd.info5 : (Tryd.prog.info? 5).map (fun i => (i.zero, i.size, i.bytes)) = some (some (.int .u8 0), 1, 1) := by kernel_rfl

theorem getD_append_l {L M : List UInt8} {j : Nat} (h : j < L.length) : (L ++ M).getD j 0 = L.getD j 0 := by
  rw [List.getD_eq_getElem?_getD, List.getD_eq_getElem?_getD, List.getElem?_append_left h]
theorem getD_append_r {L M : List UInt8} {j : Nat} (h : L.length ≤ j) : (L ++ M).getD j 0 = M.getD (j - L.length) 0 := by
  rw [List.getD_eq_getElem?_getD, List.getD_eq_getElem?_getD, List.getElem?_append_right h]

theorem wpList_join (w : World) {ops : Array Oper} {rest : List Oper} {o : Oper} {a : Act} {Q : Exit → Act → World → Prop}
    (hgd : o.guard = none) (s x : Operand) (hop : o.op = Op.call { callee := Callee.builtin Builtin.append, args := #[s, x], argTypes := #[47, 47] })
    (B g1 n1 c1 g2 n2 c2 : Nat) (L M : List UInt8) (hs : a.eval s = .slice (some ⟨g1, 0, none⟩) n1 c1) (hx : a.eval x = .slice (some ⟨g2, 0, none⟩) n2 c2)
    (hn1 : L.length = n1) (hn2 : M.length = n2) (h1 : Row g1 L w) (h2 : Row g2 M w) (hB : B ≤ g1) (hBw : B ≤ w.heap.size)
    (hsp : ∀ j, n1 ≤ j → j < c1 → (w.cell? ⟨g1, j, none⟩).isSome = true ∧ w.frozen? ⟨g1, j, none⟩ = false) (hsz : n1 + n2 ≤ 4194304)
    (K : ∀ g cap w', Row g (L ++ M) w' → Below B w w' → wpList Tryd.prog ops Q rest (a.put o.dst (.slice (some ⟨g, 0, none⟩) (n1 + n2) cap)) w') :
    wpList Tryd.prog ops Q (o :: rest) a w := by
  subst hn1; subst hn2
  obtain ⟨i0, hi, hz0, hz1, hz2⟩ := info_parts Tryd.info5
  refine wpList_append_arg w hgd s x 47 hop 5 i0 (.int .u8 0) 1 1 Tryd.underlying47 hi hz0 hz1 hz2 rfl (by decide) g1 0 L.length c1 (vals L) hs (by simp [vals]) (fun j u hu => by rw [Nat.zero_add]; exact h1.vals j u hu)
    ⟨g2, 0, none⟩ M.length c2 (vals M) hx (by simp [vals]) (fun j u hu => by rw [add_pl, Nat.zero_add]; exact h2.vals j u hu) (fun u hu => by unfold vals at hu; obtain ⟨b, _, rfl⟩ := List.mem_map.1 hu; rfl) ?_ (by unfold maxLen; omega) (by omega) ?_ ?_
  · intro hr j hj
    rw [Nat.zero_add, Nat.mul_one]
    have : (vals M).length = M.length := by simp [vals]
    exact hsp _ (by omega) (by omega)
  · intro hr
    have hv : (vals M).length = M.length := by simp [vals]
    have hsome : ∀ j, j < (vals M).length → (w.cell? ⟨g1, L.length + j, none⟩).isSome = true := fun j hj => (hsp _ (by omega) (by omega)).1
    rw [Nat.zero_add, Nat.mul_one]
    refine K g1 c1 _ ⟨?_, ?_⟩ (below_setCells' hB _ _ _ (Below.refl _ _))
    · intro j hj
      rw [List.length_append] at hj
      by_cases hl : j < L.length
      · rw [World.cell?_setCells_out g1 _ _ _ _ (fun _ _ => Or.inl hl), h1.cell j hl, getD_append_l hl]
      · obtain ⟨i, rfl⟩ : ∃ i, j = L.length + i := ⟨j - L.length, by omega⟩
        rw [World.cell?_setCells_in g1 _ _ w hsome i (by omega), getD_append_r (by omega), show L.length + i - L.length = i by omega]
        have hi' : i < M.length := by omega
        have hg : (vals M)[i]? = some (vals M)[i] := List.getElem?_eq_getElem (by omega)
        rw [(vals_at hg).2]
    · intro j hj
      rw [List.length_append] at hj
      rw [World.frozen?_setCells]
      by_cases hl : j < L.length
      · exact h1.free j hl
      · exact (hsp j (by omega) (by omega)).2
  · intro hg v' w' hown hgr
    rcases hown.2 with ⟨_, h0⟩ | ⟨g, cap, cur, rfl, hbg, hgg, hnc, hcm, hcs, htk⟩
    · exfalso; omega
    · refine K g cap w' ⟨?_, ?_⟩ ((Below.refl _ _).grown hgr hBw (fun k h => by cases h))
      · intro j hj
        rw [List.length_append] at hj
        have hvl : (vals L).length = L.length := by simp [vals]
        have hvm : (vals M).length = M.length := by simp [vals]
        have hu : (vals L ++ vals M)[j]? = some (.int .u8 ((L ++ M).getD j 0).toNat) := by
          have hlen : j < (vals (L ++ M)).length := by rw [vals_len, List.length_append]; omega
          rw [vals_app]
          have hg2 : (vals (L ++ M))[j]? = some (vals (L ++ M))[j] := List.getElem?_eq_getElem hlen
          rw [hg2, (vals_at hg2).2]
        have := hown.cells (g := g) rfl j _ hu
        rw [add_pl, Nat.zero_add] at this
        exact this
      · intro j hj
        simp [World.frozen?, hgg]
end Go.Proofs.Qxb6604011aDoor
