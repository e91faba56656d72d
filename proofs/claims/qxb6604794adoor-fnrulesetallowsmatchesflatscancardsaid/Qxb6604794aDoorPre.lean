/- hasPrefix of the bytes of a slice. -/
import Derived.Test.Qxb6604794aDoorChild
import Derived.Lib.SlBytesRow
namespace Go.Proofs.Qxb6604794aDoor
open Go.RowKit

/-- the cells from ⟨g, off⟩ on hold the bytes K -/
structure Bys (g off : Nat) (K : List UInt8) (w : World) : Prop where
  lt : g < w.heap.size
  cell : ∀ j, j < K.length → w.cell? ⟨g, off + j, none⟩ = some (.int .u8 (K.getD j 0).toNat)

theorem Bys.below {g off : Nat} {K : List UInt8} {w w' : World} (h : Bys g off K w) (hb : Below w.heap.size w w') : Bys g off K w' :=
  ⟨Nat.lt_of_lt_of_le h.lt hb.size, fun j hj => by rw [hb.cell (p := ⟨g, off + j, none⟩) h.lt]; exact h.cell j hj⟩
theorem Bys.drop {g off : Nat} {K : List UInt8} {w : World} (h : Bys g off K w) (k : Nat) (hk : k ≤ K.length) : Bys g (off + k) (K.drop k) w :=
  ⟨h.lt, fun j hj => by
    rw [List.length_drop] at hj
    have := h.cell (k + j) (by omega)
    rw [Nat.add_assoc, this, List.getD_eq_getElem?_getD, List.getD_eq_getElem?_getD, List.getElem?_drop]⟩

theorem getD_lt {l : List UInt8} {i : Nat} (h : i < l.length) : l.getD i 0 = l[i] := by
  rw [List.getD_eq_getElem?_getD, List.getElem?_eq_getElem h]; rfl
theorem Bys.bytes {g off : Nat} {K : List UInt8} {w : World} (h : Bys g off K w) (m : Nat) (hm : m ≤ K.length) : Go.Lib.Bytes w g off ⟨(K.take m).toArray⟩ := by
  intro i hi
  have hi' : i < (K.take m).length := hi
  have hi2 : i < K.length := by rw [List.length_take] at hi'; omega
  rw [h.cell i hi2, getD_lt hi2]
  congr 3
  exact (congrArg UInt8.toNat (List.getElem_take (h := hi'))).symm
theorem Bys.conv {g off : Nat} {K : List UInt8} {w : World} (h : Bys g off K w) (m : Nat) (hm : m ≤ K.length) (cap : Nat) :
    (convert 23 9 (.slice (some ⟨g, off, none⟩) m cap)).run Tryd.prog w = .ok (.string ⟨(K.take m).toArray⟩) w := by
  have h1 := Go.Lib.run_convert_whole (P := Tryd.prog) w 23 5 9 Tryd.underlying23 Tryd.underlying5 Tryd.underlying9 g off ⟨(K.take m).toArray⟩ (h.bytes m hm) cap
  have e : (⟨(K.take m).toArray⟩ : ByteArray).size = m := by
    show (K.take m).length = m
    rw [List.length_take]; omega
  rwa [e] at h1
theorem pre_take (s : ByteArray) (K : List UInt8) : (K.take s.size == s.toList) = s.data.toList.isPrefixOf K := by
  have e : s.data.toList.length = s.size := by simp
  rw [ByteArray.toList_eq, Bool.eq_iff_iff, List.isPrefixOf_iff_prefix, List.prefix_iff_eq_take, beq_iff_eq, e]
  exact eq_comm
theorem conv_nil (w : World) : (convert 23 9 (.slice none 0 0)).run Tryd.prog w = .ok (.string ⟨#[]⟩) w := by
  simp [convert, run_underlying Tryd.underlying23, run_underlying Tryd.underlying9, run_underlying Tryd.underlying5, Conv.bytesToString]
  rfl

set_option maxHeartbeats 400000 in
theorem hasPre_nil (s : ByteArray) (w : World) :
    Calls Tryd.prog 26 #[.slice none 0 0, .string s] w fun e w' => e = .returned (.bool (s.data.toList.isPrefixOf [])) ∧ w' = w := by
  by_cases h : s.size = 0
  · have hs : s = ⟨#[]⟩ := by
      cases s with | mk d => cases d with | mk l => cases l with
        | nil => rfl
        | cons a t => cases h
    subst hs
    have hcv := conv_nil
    go_enter Tryd.func26, Tryd.ntmps26
    go_wp2
    go_ret
    exact ⟨rfl, rfl⟩
  · have hs : s.data.toList.isPrefixOf [] = false := by
      cases s with | mk d => cases d with | mk l => cases l with
        | nil => exact absurd rfl h
        | cons a t => rfl
    rw [hs]
    go_enter Tryd.func26, Tryd.ntmps26
    go_wp2
    go_ret
    exact ⟨rfl, rfl⟩

set_option maxHeartbeats 400000 in
theorem hasPre_some (g off n c : Nat) (K : List UInt8) (s : ByteArray) (w : World) (h : Bys g off K w) (hn : K.length = n) (hc : n ≤ c) :
    Calls Tryd.prog 26 #[.slice (some ⟨g, off, none⟩) n c, .string s] w fun e w' => e = .returned (.bool (s.data.toList.isPrefixOf K)) ∧ w' = w := by
  obtain ⟨R, hR⟩ : ∃ R, s.data.toList.isPrefixOf K = R := ⟨_, rfl⟩
  rw [hR]
  have HR : Hid (s.data.toList.isPrefixOf K = R) := hR
  clear hR
  by_cases hl : s.size ≤ n
  · have hcv := fun cap => h.conv s.size (by omega) cap
    clear h
    go_enter Tryd.func26, Tryd.ntmps26
    go_wp2
    go_ret
    exact ⟨by rw [← HR.out, ← pre_take]; rfl, rfl⟩
  · have HF : Hid (s.data.toList.isPrefixOf K = false) := by
      show _ = _
      rw [← Bool.not_eq_true, List.isPrefixOf_iff_prefix]
      intro h1
      have := h1.length_le
      rw [Array.length_toList] at this
      exact hl (by rw [← hn]; exact this)
    go_enter Tryd.func26, Tryd.ntmps26
    go_wp2
    go_ret
    exact ⟨by rw [← HR.out, HF.out]; rfl, rfl⟩

/-- the value v is a slice of bytes that reads K -/
def KeyV (v : Value) (K : List UInt8) (w : World) : Prop := (v = .slice none 0 0 ∧ K = []) ∨ ∃ g off n c, v = .slice (some ⟨g, off, none⟩) n c ∧ K.length = n ∧ n ≤ c ∧ Bys g off K w
theorem KeyV.below {v : Value} {K : List UInt8} {w w' : World} (h : KeyV v K w) (hb : Below w.heap.size w w') : KeyV v K w' := by
  rcases h with h | ⟨g, off, n, c, h1, h2, h3, h4⟩
  · exact .inl h
  · exact .inr ⟨g, off, n, c, h1, h2, h3, h4.below hb⟩
theorem hasPre_any {v : Value} {K : List UInt8} {w : World} (h : KeyV v K w) (s : ByteArray) :
    Calls Tryd.prog 26 #[v, .string s] w fun e w' => e = .returned (.bool (s.data.toList.isPrefixOf K)) ∧ w' = w := by
  rcases h with ⟨rfl, rfl⟩ | ⟨g, off, n, c, rfl, h2, h3, h4⟩
  · exact hasPre_nil s w
  · exact hasPre_some g off n c K s w h4 h2 h3
theorem Bys.nil {g off : Nat} {w : World} (h : g < w.heap.size) : Bys g off [] w := ⟨h, fun _ hj => absurd hj (Nat.not_lt_zero _)⟩
/-- 'rest[m:]' -/
theorem KeyV.cut {v : Value} {K : List UInt8} {w : World} (h : KeyV v K w) (m : Nat) (hm : m ≤ K.length) :
    ∃ v', (∀ w1, (Instr.slice 23 v (some (.int .i64 m)) none none).run Tryd.prog w1 = .ok v' w1) ∧ KeyV v' (K.drop m) w := by
  have ht : Tryd.prog.underlying 23 = some (.slice (Tryd.prog.elem 23)) := by kernel_rfl
  have he : Tryd.prog.elem 23 = 5 := by kernel_rfl
  rcases h with ⟨rfl, rfl⟩ | ⟨g, off, n, c, rfl, e1, e2, e3⟩
  · obtain rfl : m = 0 := by simpa using hm
    refine ⟨.slice none 0 0, fun w1 => ?_, .inl ⟨rfl, rfl⟩⟩
    rw [run_slice_l (P := Tryd.prog) (w := w1) 23 none 0 0 ht .i64 ((0 : Nat) : Int) (by omega) (by omega), he, Tryd.sizeOf5]
    rfl
  · refine ⟨sliced (some ⟨g, off, none⟩) m n c 1, fun w1 => ?_, ?_⟩
    · rw [run_slice_l (P := Tryd.prog) (w := w1) 23 (some ⟨g, off, none⟩) n c ht .i64 (m : Int) (by omega) (by omega), he, Tryd.sizeOf5]
      rfl
    · unfold sliced
      have hl : (K.drop m).length = n - m := by rw [List.length_drop]; omega
      by_cases hc : c = m
      · have hK : K.drop m = [] := List.eq_nil_of_length_eq_zero (by omega)
        refine .inr ⟨g, off, n - m, c - m, by rw [if_pos hc], hl, by omega, ?_⟩
        rw [hK]; exact Bys.nil e3.lt
      · refine .inr ⟨g, off + m, n - m, c - m, ?_, hl, by omega, e3.drop m hm⟩
        rw [if_neg hc]
        simp [Addr.add]
end Go.Proofs.Qxb6604794aDoor
