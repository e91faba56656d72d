/- The copy of the rules. -/
import Derived.Test.Qxb6604794aDoorCopy
namespace Go.Proofs.Qxb6604794aDoor
open Go.RowKit

/-- the row 'g' of the world holds the rules, and may be written -/
structure RRow (g : Nat) (A : List (Nat × ByteArray)) (w : World) : Prop where
  cell : ∀ j, j < A.length → w.cell? ⟨g, j * 2, none⟩ = some (.int .u8 (A.getD j (0, ⟨#[]⟩)).1) ∧ w.cell? ⟨g, j * 2 + 1, none⟩ = some (.string (A.getD j (0, ⟨#[]⟩)).2)
  free : ∀ j, j < A.length → w.frozen? ⟨g, j * 2, none⟩ = false ∧ w.frozen? ⟨g, j * 2 + 1, none⟩ = false

theorem RRow.set {g : Nat} {A : List (Nat × ByteArray)} {w : World} (h : RRow g A w) {j : Nat} (hj : j < A.length) (y : Nat × ByteArray) : RRow g (A.set j y) ((w.setCell ⟨g, j * 2, none⟩ (.int .u8 y.1)).setCell ⟨g, j * 2 + 1, none⟩ (.string y.2)) := by
  constructor
  · intro i hi
    rw [List.length_set] at hi
    by_cases e : i = j
    · subst e
      have e1 : (A.set i y).getD i (0, ⟨#[]⟩) = y := by rw [List.getD_eq_getElem?_getD, List.getElem?_set_self hi]; rfl
      rw [e1]
      constructor
      · rw [World.cell?_setCell_other _ ⟨g, i * 2 + 1, none⟩ ⟨g, i * 2, none⟩ _ (fun h => by injection h; omega), World.cell?_setCell_same _ _ _ (h.cell i hi).1]
      · refine World.cell?_setCell_same _ ⟨g, i * 2 + 1, none⟩ _ (u := .string (A.getD i (0, ⟨#[]⟩)).2) ?_
        rw [World.cell?_setCell_other _ ⟨g, i * 2, none⟩ ⟨g, i * 2 + 1, none⟩ _ (fun h => by injection h; omega)]
        exact (h.cell i hi).2
    · have e1 : (A.set j y).getD i (0, ⟨#[]⟩) = A.getD i (0, ⟨#[]⟩) := by rw [List.getD_eq_getElem?_getD, List.getD_eq_getElem?_getD, List.getElem?_set_ne (by omega)]
      rw [e1]
      constructor
      · rw [World.cell?_setCell_other _ ⟨g, j * 2 + 1, none⟩ ⟨g, i * 2, none⟩ _ (fun h => by injection h; omega), World.cell?_setCell_other _ ⟨g, j * 2, none⟩ ⟨g, i * 2, none⟩ _ (fun h => by injection h; omega)]
        exact (h.cell i hi).1
      · rw [World.cell?_setCell_other _ ⟨g, j * 2 + 1, none⟩ ⟨g, i * 2 + 1, none⟩ _ (fun h => by injection h; omega), World.cell?_setCell_other _ ⟨g, j * 2, none⟩ ⟨g, i * 2 + 1, none⟩ _ (fun h => by injection h; omega)]
        exact (h.cell i hi).2
  · intro i hi
    rw [List.length_set] at hi
    simp only [World.frozen?_setCell]; exact h.free i hi

theorem RRow.made (w : World) (n : Nat) : RRow w.heap.size (List.replicate n (0, ⟨#[]⟩)) (w.alloc (.cells (madeCells #[.int .u8 0, .string ⟨#[]⟩] (n * 2)) 27)) := by
  have hk := heap_alloc_new w (.cells (madeCells #[.int .u8 0, .string ⟨#[]⟩] (n * 2)) 27)
  constructor
  · intro j hj
    have hj' : j < n := by simpa using hj
    have h2 : (List.replicate n ((0, ⟨#[]⟩) : Nat × ByteArray)).getD j (0, ⟨#[]⟩) = (0, ⟨#[]⟩) := by simp [List.getD_eq_getElem?_getD, hj']
    rw [h2]
    constructor
    · rw [cell_of_row _ _ _ _ _ _ hk]
      have e : j * 2 % 2 = 0 := by omega
      simp [madeCells, e, show j * 2 < n * 2 by omega]
    · rw [cell_of_row _ _ _ _ _ _ hk]
      have e : (j * 2 + 1) % 2 = 1 := by omega
      simp [madeCells, e, show j * 2 + 1 < n * 2 by omega]
  · intro j hj
    simp

set_option maxHeartbeats 1000000 in
theorem rules_nil (w : World) : Calls Tryd.prog 8 #[.slice none 0 0] w fun e w' => e = .returned (.slice none 0 0) ∧ w' = w := by
  have hq := fun w a n c => Go.Lib.run_eql_slice_nil (P := Tryd.prog) w 22 27 a n c 0 0 Tryd.underlying22
  go_enter Tryd.func8, Tryd.ntmps8
  go_wp2
  go_ret
  exact ⟨rfl, rfl⟩

theorem make27 (n : Nat) (hn : n ≤ 65536) (w : World) : (Instr.makeSlice 22 (.int .i64 (n : Int)) (.int .i64 (n : Int))).run Tryd.prog w = .ok (.slice (some ⟨w.heap.size, 0, none⟩) n n) (w.alloc (.cells (madeCells #[.int .u8 0, .string ⟨#[]⟩] (n * 2)) 27)) := by
  obtain ⟨i0, hi0, hz0, hz1, hz2⟩ := info_parts Tryd.info27
  have hr := run_make (P := Tryd.prog) w 22 27 i0 _ Tryd.underlying22 hi0 hz0 .i64 .i64 n n (by omega) (Int.le_refl _) (by rw [hz2]; omega) (by omega)
  simp only [Int.toNat_natCast, hz1] at hr
  exact hr

set_option maxHeartbeats 1000000 in
theorem rules_some (ad : Addr) (n c : Nat) (rs : List (Nat × ByteArray)) (w : World) (hn : n ≤ 65536) (h : Ruls (some ad) n rs w) :
    Calls Tryd.prog 8 #[.slice (some ad) n c] w fun e w' => e = .returned (.slice (some ⟨w.heap.size, 0, none⟩) n n) ∧ RRow w.heap.size rs w' ∧ Below w.heap.size w w' ∧ w.heap.size < w'.heap.size := by
  have hmk := make27 n hn
  have hq := fun w a n c => Go.Lib.run_eql_slice_nil (P := Tryd.prog) w 22 27 a n c 0 0 Tryd.underlying22
  go_enter Tryd.func8, Tryd.ntmps8
  go_wp2
  go_loopw [4] (fun i wr => ∃ (k : Nat) (A : List (Nat × ByteArray)), k ≤ n ∧ i = .int .i64 k ∧ A.length = rs.length ∧ Hid (A.take k = rs.take k) ∧ RRow w.heap.size A wr ∧ Below w.heap.size w wr ∧ w.heap.size < wr.heap.size) (fun i _ => n - (RowKit.intOf i).toNat)
  case atStart => exact ⟨0, List.replicate n (0, ⟨#[]⟩), Nat.zero_le _, rfl, by simp [h.len], rfl, RRow.made w n, (Below.refl _ _).alloc (Nat.le_refl _) _, by simp⟩
  case round =>
    obtain ⟨k, A, hk, rfl, hA, H, hrow, hb, hlt2⟩ := hrel
    have HA : Hid (A.length = rs.length) := hA
    clear hA hmk hq
    by_cases hlt : k < n
    · obtain ⟨b, off, ha, hbb, hcc⟩ := h.at_ (by omega)
      simp only [Option.some.injEq] at ha
      subst ha
      obtain ⟨hc0, hc1⟩ := hcc k hlt
      rw [← hb.cell (p := ⟨b, off + k * 2, none⟩) hbb] at hc0
      rw [← hb.cell (p := ⟨b, off + k * 2 + 1, none⟩) hbb] at hc1
      have hkA : k < A.length := by rw [HA.out, h.len]; exact hlt
      obtain ⟨hu0, hu1⟩ := hrow.cell k hkA
      obtain ⟨hf0, hf1⟩ := hrow.free k hkA
      have hki : (k : Int) < (n : Int) := by omega
      have HKA : Hid (k < A.length) := hkA
      have HTS := take_set (d := (0, ⟨#[]⟩)) HA.out (by rw [h.len]; exact hlt) H.out
      have HR := hrow.set hkA (rs.getD k (0, ⟨#[]⟩))
      generalize rs.getD k (0, ⟨#[]⟩) = s at hc0 hc1 HTS HR
      obtain ⟨s1, s2⟩ := s
      clear hcc hkA
      go_wp2
      exact ⟨⟨k + 1, A.set k (s1, s2), by omega, by go_num, by rw [List.length_set]; exact HA.out, HTS, HR, (hb.setCell (Nat.le_refl _) _).setCell (Nat.le_refl _) _, by simpa using hlt2⟩, by simp [RowKit.intOf]; omega⟩
    · have hAl : A = rs := by
        have := H.out
        rwa [List.take_of_length_le (by rw [HA.out, h.len]; omega), List.take_of_length_le (by rw [h.len]; omega)] at this
      subst hAl
      go_wp2
      go_ret
      exact ⟨rfl, hrow, hb, hlt2⟩

theorem rules_any (a : Option Addr) (n c : Nat) (rs : List (Nat × ByteArray)) (w : World) (hn : n ≤ 65536) (h0 : a = none → n = 0 ∧ c = 0) (h : Ruls a n rs w) :
    Calls Tryd.prog 8 #[.slice a n c] w fun e w' => ∃ a' c', e = .returned (.slice a' n c') ∧ Ruls a' n rs w' ∧ Below w.heap.size w w' := by
  cases a with
  | none =>
    obtain ⟨rfl, rfl⟩ := h0 rfl
    refine (rules_nil w).mono ?_
    rintro e w' ⟨rfl, rfl⟩
    exact ⟨_, _, rfl, h, Below.refl _ _⟩
  | some ad =>
    refine (rules_some ad n c rs w hn h).mono ?_
    rintro e w' ⟨rfl, a1, a2, a3⟩
    refine ⟨_, _, rfl, ⟨h.len, fun _ => ⟨_, 0, rfl, a3, fun j hj => ?_⟩⟩, a2⟩
    rw [Nat.zero_add]
    exact a1.cell j (by rw [h.len]; exact hj)
end Go.Proofs.Qxb6604794aDoor
