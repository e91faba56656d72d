/- (*node).child: the first edge of a byte. -/
import Derived.Test.Qxb6604794aDoorTrie
namespace Go.Proofs.Qxb6604794aDoor
open Go.RowKit

/-- where the edge b of the node of p leads -/
def kid (T : Shape) (p : List UInt8) (b : UInt8) : Option Addr := if b ∈ T.E p then some ⟨T.A (p ++ [b]), 0, none⟩ else none

theorem ret_ptr {a b : Option Addr} (h : a = b) : Ending.returned (.pointer a) = .returned (.pointer b) := by rw [h]

set_option maxHeartbeats 800000 in
theorem child_any {B : Nat} {T : Shape} {N : Nat} {w : World} (h : Trie B T N w) (hN : N ≤ 1048576) {p : List UInt8} (hp : T.D p) (b : UInt8) :
    Calls Tryd.prog 22 #[.pointer (some ⟨T.A p, 0, none⟩), .int .u8 b.toNat] w fun e w' => e = .returned (.pointer (kid T p b)) ∧ Below w.heap.size w w' := by
  have hc1 := h.next p hp
  have hrow := h.row p hp
  have hlen := h.short p hp
  have hA := (h.addr p hp).2.1
  obtain ⟨R, hR⟩ : ∃ R, kid T p b = R := ⟨_, rfl⟩
  rw [hR]
  have HR : Hid ((if b ∈ T.E p then some (⟨T.A (p ++ [b]), 0, none⟩ : Addr) else none) = R) := hR
  clear hR h hp
  generalize T.A p = a at hc1 hA ⊢
  rcases hrow.2 with ⟨hv, hn⟩ | ⟨g, cap, cur, hv, hb, hg, hcap, _, _, _⟩
  · rw [hv] at hc1
    have hE : T.E p = [] := List.eq_nil_of_length_eq_zero hn
    have HE : Hid (T.E p = []) := hE
    clear hn hE hrow hv hlen
    go_enter Tryd.func22, Tryd.ntmps22
    go_wp2
    go_loopw [12] (fun i wr => wr = w ∧ i = .int .i64 0) (fun _ _ => 0)
    case atStart => exact ⟨rfl, rfl⟩
    case round =>
      obtain ⟨hw, rfl⟩ := hrel
      rw [hw]
      go_wp2
      go_ret
      exact ⟨ret_ptr (by rw [← HR.out, HE.out]; rfl), Below.refl _ _⟩
  · rw [hv] at hc1 hrow
    have hglt := (hrow.lt g rfl).2
    have hcells := fun (k : Nat) (hk : k < (T.E p).length) => (show w.cell? ⟨g, k * 2, none⟩ = some (.int .u8 (T.E p)[k].toNat) ∧ w.cell? ⟨g, k * 2 + 1, none⟩ = some (.pointer (some ⟨T.A (p ++ [(T.E p)[k]]), 0, none⟩)) from
      ⟨(hrow.cellAt (k * 2) (by omega)).trans (by rw [Nat.mul_comm]; exact (edgeCells_get T.A p (T.E p) k hk).1), (hrow.cellAt (k * 2 + 1) (by omega)).trans (by rw [Nat.mul_comm]; exact (edgeCells_get T.A p (T.E p) k hk).2)⟩)
    have HC : Hid (∀ (k : Nat) (hk : k < (T.E p).length), w.cell? ⟨g, k * 2, none⟩ = some (.int .u8 (T.E p)[k].toNat) ∧ w.cell? ⟨g, k * 2 + 1, none⟩ = some (.pointer (some ⟨T.A (p ++ [(T.E p)[k]]), 0, none⟩))) := hcells
    clear hcells hrow hv hg
    generalize hE : T.E p = E at HC hlen hc1 HR ⊢
    clear hE hcap
    go_enter Tryd.func22, Tryd.ntmps22
    go_wp2
    go_loopw [12] (fun i wr => ∃ k : Nat, k ≤ E.length ∧ i = .int .i64 k ∧ Hid (b ∉ E.take k) ∧ Below w.heap.size w wr) (fun i _ => E.length - (RowKit.intOf i).toNat)
    case atStart => exact ⟨0, Nat.zero_le _, rfl, by simp [Hid], Below.refl _ _⟩
    case round =>
      obtain ⟨k, hk, rfl, HN, hbw⟩ := hrel
      by_cases hlt : k < E.length
      · obtain ⟨e0, e1⟩ := HC.out k hlt
        rw [← hbw.cell (p := ⟨g, k * 2, none⟩) hglt] at e0
        rw [← hbw.cell (p := ⟨g, k * 2 + 1, none⟩) hglt] at e1
        cases hq : ((E[k].toNat : Int) == (b.toNat : Int))
        · go_wp2
          refine ⟨⟨k + 1, by omega, by go_num, ?_, hbw.alloc hbw.size _⟩, by simp [RowKit.intOf]; omega⟩
          show b ∉ E.take (k + 1)
          rw [List.take_succ_eq_append_getElem hlt, List.mem_append, List.mem_singleton]
          rintro (h1 | h1)
          · exact HN.out h1
          · rw [h1] at hq; simp at hq
        · have hEb : E[k] = b := UInt8.toNat_inj.1 (by have := beq_iff_eq.1 hq; omega)
          have HEb : Hid (E[k] = b) := hEb
          clear hEb
          go_wp2
          go_ret
          exact ⟨ret_ptr (by rw [← HR.out, if_pos (by rw [← HEb.out]; exact List.getElem_mem _), HEb.out]), hbw.alloc hbw.size _⟩
      · go_wp2
        go_ret
        exact ⟨ret_ptr (by rw [← HR.out, if_neg]; have := HN.out; rwa [List.take_of_length_le (by omega)] at this), hbw⟩
end Go.Proofs.Qxb6604794aDoor
