/- The copies of the rules and of the key. -/
import Derived.Test.Qxb6604794aDoorGuard
import Derived.Deep.OwnRows
import Derived.Lib.SliceRun
namespace Go.Proofs.Qxb6604794aDoor
open Go.RowKit

/-- the row 'g' of the world holds the bytes, and may be written -/
structure BRow (g : Nat) (A : List UInt8) (w : World) : Prop where
  cell : ∀ j, j < A.length → w.cell? ⟨g, j, none⟩ = some (.int .u8 (A.getD j 0).toNat)
  free : ∀ j, j < A.length → w.frozen? ⟨g, j, none⟩ = false

theorem BRow.set {g : Nat} {A : List UInt8} {w : World} (h : BRow g A w) {j : Nat} (hj : j < A.length) (y : UInt8) : BRow g (A.set j y) (w.setCell ⟨g, j, none⟩ (.int .u8 y.toNat)) := by
  constructor
  · intro i hi
    rw [List.length_set] at hi
    by_cases e : i = j
    · subst e
      rw [World.cell?_setCell_same _ _ _ (h.cell i hi), List.getD_eq_getElem?_getD, List.getElem?_set_self hi]; rfl
    · rw [World.cell?_setCell_other w ⟨g, j, none⟩ ⟨g, i, none⟩ _ (fun h => e (by injection h; omega)), h.cell i hi, List.getD_eq_getElem?_getD, List.getD_eq_getElem?_getD, List.getElem?_set_ne (by omega)]
  · intro i hi
    rw [List.length_set] at hi
    rw [World.frozen?_setCell]; exact h.free i hi

theorem BRow.made (w : World) (n : Nat) : BRow w.heap.size (List.replicate n 0) (w.alloc (.cells (madeCells #[.int .u8 0] n) 5)) := by
  constructor
  · intro j hj
    have hj' : j < n := by simpa using hj
    have h1 : (madeCells #[.int .u8 0] n)[j]? = some (.int .u8 0) := by simp [madeCells, hj', Nat.mod_one]
    have h2 : (List.replicate n (0 : UInt8)).getD j 0 = 0 := by simp [List.getD_eq_getElem?_getD, hj']
    rw [h2]
    simp [h1]
  · intro j hj
    simp

theorem take_set {α : Type} {A ls : List α} {k : Nat} {d : α} (hl : A.length = ls.length) (hk : k < ls.length) (h : A.take k = ls.take k) : (A.set k (ls.getD k d)).take (k + 1) = ls.take (k + 1) := by
  have hkA : k < A.length := by omega
  rw [List.take_succ_eq_append_getElem (by simpa using hkA), List.take_succ_eq_append_getElem hk, List.take_set_of_le (by omega), h]
  simp [List.getD_eq_getElem?_getD, List.getElem?_eq_getElem hk]

theorem Tryd.info5 : (Tryd.prog.info? 5).map (fun i => (i.zero, i.size, i.bytes)) = some (some (.int .u8 0), 1, 1) := by kernel_rfl
theorem Tryd.info27 : (Tryd.prog.info? 27).map (fun i => (i.zero, i.size, i.bytes)) = some (some (.agg #[.int .u8 0, .string ⟨#[]⟩]), 2, 24) := by kernel_rfl

set_option maxHeartbeats 1000000 in
theorem key_nil (w : World) : Calls Tryd.prog 9 #[.slice none 0 0] w fun e w' => e = .returned (.slice none 0 0) ∧ w' = w := by
  have hq := fun w a n c => Go.Lib.run_eql_slice_nil (P := Tryd.prog) w 23 5 a n c 0 0 Tryd.underlying23
  go_enter Tryd.func9, Tryd.ntmps9
  go_wp2
  go_ret
  exact ⟨rfl, rfl⟩

set_option maxHeartbeats 1000000 in
theorem key_some (ad : Addr) (n c : Nat) (K : List UInt8) (w : World) (hl : K.length = n) (hn : n ≤ 1048576) (h : 0 < n → ∃ g off, some ad = some ⟨g, off, none⟩ ∧ Bys g off K w) :
    Calls Tryd.prog 9 #[.slice (some ad) n c] w fun e w' => e = .returned (.slice (some ⟨w.heap.size, 0, none⟩) n n) ∧ BRow w.heap.size K w' ∧ Below w.heap.size w w' ∧ w.heap.size < w'.heap.size := by
  have hmk := Go.run_make_row' (P := Tryd.prog) 23 5 (.int .u8 0) 1 Tryd.underlying23 Tryd.info5 rfl .i64 .i64 n (by omega) (by omega)
  have hq := fun w a n c => Go.Lib.run_eql_slice_nil (P := Tryd.prog) w 23 5 a n c 0 0 Tryd.underlying23
  go_enter Tryd.func9, Tryd.ntmps9
  go_wp2
  go_loopw [4] (fun i wr => ∃ (k : Nat) (A : List UInt8), k ≤ n ∧ i = .int .i64 k ∧ A.length = K.length ∧ Hid (A.take k = K.take k) ∧ BRow w.heap.size A wr ∧ Below w.heap.size w wr ∧ w.heap.size < wr.heap.size) (fun i _ => n - (RowKit.intOf i).toNat)
  case atStart => exact ⟨0, List.replicate n 0, Nat.zero_le _, rfl, by simp [hl], rfl, BRow.made w n, (Below.refl _ _).alloc (Nat.le_refl _) _, by simp⟩
  case round =>
    obtain ⟨k, A, hk, rfl, hA, H, hrow, hb, hlt2⟩ := hrel
    have HA : Hid (A.length = K.length) := hA
    clear hA hmk hq
    by_cases hlt : k < n
    · obtain ⟨g, off, ha, hy⟩ := h (by omega)
      simp only [Option.some.injEq] at ha
      subst ha
      have hck : wr.cell? ⟨g, off + k, none⟩ = some (.int .u8 (K.getD k 0).toNat) := (hb.cell (p := ⟨g, off + k, none⟩) hy.lt).trans (hy.cell k (by omega))
      have hkA : k < A.length := by rw [HA.out]; omega
      have hcu := hrow.cell k hkA
      have hfu := hrow.free k hkA
      have hki : (k : Int) < (n : Int) := by omega
      have HKA : Hid (k < A.length) := hkA
      have HTS := take_set (d := 0) HA.out (by omega) H.out
      have HR := hrow.set hkA (K.getD k 0)
      generalize K.getD k 0 = s at hck HTS HR
      clear hkA
      go_wp2
      exact ⟨⟨k + 1, A.set k s, by omega, by go_num, by rw [List.length_set]; exact HA.out, HTS, HR, hb.setCell (Nat.le_refl _) _, by simpa using hlt2⟩, by simp [RowKit.intOf]; omega⟩
    · have hAl : A = K := by
        have := H.out
        rwa [List.take_of_length_le (by rw [HA.out]; omega), List.take_of_length_le (by omega)] at this
      subst hAl
      go_wp2
      go_ret
      exact ⟨rfl, hrow, hb, hlt2⟩

theorem BRow.keyV {g n : Nat} {K : List UInt8} {w : World} (h : BRow g K w) (hl : K.length = n) (hg : g < w.heap.size) : KeyV (.slice (some ⟨g, 0, none⟩) n n) K w :=
  .inr ⟨g, 0, n, n, rfl, hl, Nat.le_refl _, ⟨hg, fun j hj => by rw [Nat.zero_add]; exact h.cell j hj⟩⟩

/-- the key as it came: a slice whose bytes are K -/
structure KeyA (a : Option Addr) (n c : Nat) (K : List UInt8) (w : World) : Prop where
  nil : a = none → n = 0 ∧ c = 0
  len : K.length = n
  at_ : 0 < n → ∃ g off, a = some ⟨g, off, none⟩ ∧ Bys g off K w
theorem KeyA.below {a : Option Addr} {n c : Nat} {K : List UInt8} {w w' : World} (h : KeyA a n c K w) (hb : Below w.heap.size w w') : KeyA a n c K w' :=
  ⟨h.nil, h.len, fun hn => let ⟨g, off, h1, h2⟩ := h.at_ hn; ⟨g, off, h1, h2.below hb⟩⟩

theorem key_any {a : Option Addr} {n c : Nat} {K : List UInt8} {w : World} (h : KeyA a n c K w) (hn : K.length ≤ 1048576) :
    Calls Tryd.prog 9 #[.slice a n c] w fun e w' => ∃ v', e = .returned v' ∧ KeyV v' K w' ∧ Below w.heap.size w w' := by
  have hl := h.len
  cases a with
  | none =>
    obtain ⟨rfl, rfl⟩ := h.nil rfl
    obtain rfl : K = [] := List.eq_nil_of_length_eq_zero hl
    refine (key_nil w).mono ?_
    rintro e w' ⟨rfl, rfl⟩
    exact ⟨_, rfl, .inl ⟨rfl, rfl⟩, Below.refl _ _⟩
  | some ad =>
    refine (key_some ad n c K w hl (by omega) h.at_).mono ?_
    rintro e w' ⟨rfl, a1, a2, a3⟩
    exact ⟨_, rfl, a1.keyV hl a3, a2⟩
end Go.Proofs.Qxb6604794aDoor
