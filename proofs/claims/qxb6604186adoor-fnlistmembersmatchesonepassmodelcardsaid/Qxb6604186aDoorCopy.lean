/-
  copyStrings.
-/
import Derived.Test.Qxb6604186aDoorGuard
import Derived.Lib.SliceRun
namespace Go.Proofs.Qxb6604186aDoor
open Go.RowKit

/-- the row 'g' of the world holds the strings, and may be written -/
structure SRow (g : Nat) (A : List ByteArray) (w : World) : Prop where
  cell : ∀ j, j < A.length → w.cell? ⟨g, j, none⟩ = some (.string (A.getD j ⟨#[]⟩))
  free : ∀ j, j < A.length → w.frozen? ⟨g, j, none⟩ = false

theorem SRow.set {g : Nat} {A : List ByteArray} {w : World} (h : SRow g A w) {j : Nat} (hj : j < A.length) (y : ByteArray) : SRow g (A.set j y) (w.setCell ⟨g, j, none⟩ (.string y)) := by
  constructor
  · intro i hi
    rw [List.length_set] at hi
    by_cases e : i = j
    · subst e
      rw [World.cell?_setCell_same _ _ _ (h.cell i hi), List.getD_eq_getElem?_getD, List.getElem?_set_self hi]; rfl
    · rw [World.cell?_setCell_other w ⟨g, j, none⟩ ⟨g, i, none⟩ _ (fun h => e (by injection h; omega)), h.cell i hi, List.getD_eq_getElem?_getD, List.getD_eq_getElem?_getD, List.getElem?_set_ne (by omega)]
  · intro i hi
    rw [List.length_set] at hi
    rw [World.frozen?_setCell]; exact h.free i hi

theorem SRow.made (w : World) (n : Nat) : SRow w.heap.size (List.replicate n ⟨#[]⟩) (w.alloc (.cells (madeCells #[.string ⟨#[]⟩] n) 9)) := by
  constructor
  · intro j hj
    have hj' : j < n := by simpa using hj
    have h1 : (madeCells #[.string ⟨#[]⟩] n)[j]? = some (.string ⟨#[]⟩) := by simp [madeCells, hj', Nat.mod_one]
    have h2 : (List.replicate n (⟨#[]⟩ : ByteArray)).getD j ⟨#[]⟩ = ⟨#[]⟩ := by simp [List.getD_eq_getElem?_getD, hj']
    rw [h2]
    simp [h1]
  · intro j hj
    simp

theorem take_set {A ls : List ByteArray} {k : Nat} (hl : A.length = ls.length) (hk : k < ls.length) (h : A.take k = ls.take k) : (A.set k (ls.getD k ⟨#[]⟩)).take (k + 1) = ls.take (k + 1) := by
  have hkA : k < A.length := by omega
  rw [List.take_succ_eq_append_getElem (by simpa using hkA), List.take_succ_eq_append_getElem hk, List.take_set_of_le (by omega), h]
  simp [List.getD_eq_getElem?_getD, List.getElem?_eq_getElem hk]

theorem Tryd.info9 : (Tryd.prog.info? 9).map (fun i => (i.zero, i.size, i.bytes)) = some (some (.string ⟨#[]⟩), 1, 16) := by kernel_rfl

set_option maxHeartbeats 400000 in
theorem copy_nil (w : World) : Calls Tryd.prog 6 #[.slice none 0 0] w fun e w' => e = .returned (.slice none 0 0) ∧ w' = w := by
  have hq := fun w a n c => Go.Lib.run_eql_slice_nil (P := Tryd.prog) w 22 9 a n c 0 0 Tryd.underlying22
  go_enter Tryd.func6, Tryd.ntmps6
  go_wp2
  go_ret
  exact ⟨rfl, rfl⟩

set_option maxHeartbeats 1000000 in
theorem copy_some (ad : Addr) (n c : Nat) (ls : List ByteArray) (w : World) (hn : n ≤ 65536) (h : Strs (some ad) n ls w) :
    Calls Tryd.prog 6 #[.slice (some ad) n c] w fun e w' => e = .returned (.slice (some ⟨w.heap.size, 0, none⟩) n n) ∧ SRow w.heap.size ls w' ∧ Below w.heap.size w w' ∧ w.heap.size < w'.heap.size := by
  have hmk := Go.run_make_row' (P := Tryd.prog) 22 9 (.string ⟨#[]⟩) 16 Tryd.underlying22 Tryd.info9 rfl .i64 .i64 n (by omega) (by omega)
  have hq := fun w a n c => Go.Lib.run_eql_slice_nil (P := Tryd.prog) w 22 9 a n c 0 0 Tryd.underlying22
  go_enter Tryd.func6, Tryd.ntmps6
  go_wp2
  go_loopw [4] (fun i wr => ∃ (k : Nat) (A : List ByteArray), k ≤ n ∧ i = .int .i64 k ∧ A.length = ls.length ∧ Hid (A.take k = ls.take k) ∧ SRow w.heap.size A wr ∧ Below w.heap.size w wr ∧ w.heap.size < wr.heap.size) (fun i _ => n - (RowKit.intOf i).toNat)
  case atStart => exact ⟨0, List.replicate n ⟨#[]⟩, Nat.zero_le _, rfl, by simp [h.len], rfl, SRow.made w n, (Below.refl _ _).alloc (Nat.le_refl _) _, by simp⟩
  case round =>
    obtain ⟨k, A, hk, rfl, hA, H, hrow, hb, hlt2⟩ := hrel
    have HA : Hid (A.length = ls.length) := hA
    clear hA hmk hq
    by_cases hlt : k < n
    · obtain ⟨b, off, ha, hbb, hcc⟩ := h.at_ (by omega)
      simp only [Option.some.injEq] at ha
      subst ha
      have hck : wr.cell? ⟨b, off + k, none⟩ = some (.string (ls.getD k ⟨#[]⟩)) := (hb.cell (p := ⟨b, off + k, none⟩) hbb).trans (hcc k hlt)
      have hkA : k < A.length := by rw [HA.out, h.len]; exact hlt
      have hcu := hrow.cell k hkA
      have hfu := hrow.free k hkA
      have hki : (k : Int) < (n : Int) := by omega
      have HKA : Hid (k < A.length) := hkA
      have HTS := take_set HA.out (by rw [h.len]; exact hlt) H.out
      have HR := hrow.set hkA (ls.getD k ⟨#[]⟩)
      generalize ls.getD k ⟨#[]⟩ = s at hck HTS HR
      clear hcc hkA
      go_wp2
      exact ⟨⟨k + 1, A.set k s, by omega, by go_num, by rw [List.length_set]; exact HA.out, HTS, HR, hb.setCell (Nat.le_refl _) _, by simpa using hlt2⟩, by simp [RowKit.intOf]; omega⟩
    · have hAl : A = ls := by
        have := H.out
        rwa [List.take_of_length_le (by rw [HA.out, h.len]; omega), List.take_of_length_le (by rw [h.len]; omega)] at this
      subst hAl
      go_wp2
      go_ret
      exact ⟨rfl, hrow, hb, hlt2⟩
end Go.Proofs.Qxb6604186aDoor
