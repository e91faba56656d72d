/-
  decMagOf.
-/
import Derived.Test.Qxb6604011aDoorCmp
namespace Go.Proofs.Qxb6604011aDoor
open Go.RowKit
open Go.Lib (decDigits)

/-- where the writing of digits from the back stands -/
structure MInv (n v t : Nat) (A : List UInt8) : Prop where
  le : t ≤ 20
  len : A.length = 20
  sum : (0 < v ∧ decDigits n = decDigits v ++ A.drop t) ∨ (v = 0 ∧ decDigits n = A.drop t)

theorem MInv.room {n v t : Nat} {A : List UInt8} (h : MInv n v t A) (hn : n < 1000000000000000000) (hv : 0 < v) : 3 ≤ t := by
  have h18 : (10 : Nat) ^ 18 = 1000000000000000000 := by decide
  have hl : (decDigits n).length ≤ 18 := by
    by_cases h0 : n = 0
    · subst h0; rw [decDigits_small (by decide)]; simp
    · have := cd_len (n := n) (k := 18) (by omega)
      rwa [cd, if_neg h0] at this
  rcases h.sum with ⟨_, e⟩ | ⟨e, _⟩
  · have h1 : 0 < (decDigits v).length := List.length_pos_iff.2 (decDigits_ne v)
    rw [e, List.length_append, List.length_drop, h.len] at hl
    have := h.le
    omega
  · omega

theorem val_dec_le {n v : Nat} {D : List UInt8} (h : decDigits n = decDigits v ++ D) : v ≤ n := by
  have h1 := val_decDigits n
  rw [h, val_append, val_decDigits] at h1
  have h2 : 1 ≤ 10 ^ D.length := Nat.one_le_pow _ _ (by decide)
  have h3 : v * 1 ≤ v * 10 ^ D.length := Nat.mul_le_mul_left _ h2
  omega

theorem MInv.small {n v t : Nat} {A : List UInt8} (h : MInv n v t A) (hn : n < 1000000000000000000) : v < 1000000000000000000 := by
  rcases h.sum with ⟨_, e⟩ | ⟨e, _⟩
  · have := val_dec_le e
    omega
  · omega

theorem drop_set {A : List UInt8} {u : Nat} (h : u < A.length) (y : UInt8) : (A.set u y).drop u = y :: A.drop (u + 1) := by
  rw [set_at h, List.drop_append_of_le_length (by simp; omega), List.drop_of_length_le (by simp; omega), List.nil_append]

theorem MInv.step {n v u : Nat} {A : List UInt8} (h : MInv n v (u + 1) A) (hv : 0 < v) : MInv n (v / 10) u (A.set u (UInt8.ofNat (48 + v % 10))) := by
  have hu : u < A.length := by rw [h.len]; have := h.le; omega
  refine ⟨by have := h.le; omega, by rw [List.length_set, h.len], ?_⟩
  rw [drop_set hu]
  rcases h.sum with ⟨_, e⟩ | ⟨e, _⟩
  · by_cases h10 : v < 10
    · right
      refine ⟨by omega, ?_⟩
      rw [e, decDigits_small h10, show v % 10 = v by omega]; rfl
    · left
      refine ⟨by omega, ?_⟩
      rw [e, decDigits_big h10, List.append_assoc]; rfl
  · omega

theorem MInv.done {n t : Nat} {A : List UInt8} (h : MInv n 0 t A) (hn : 0 < n) : A.drop t = cd n := by
  rcases h.sum with ⟨e, _⟩ | ⟨_, e⟩
  · omega
  · rw [cd, if_neg (by omega), e]

theorem Row.tail {g : Nat} {A : List UInt8} {w : World} (h : Row g A w) (t : Nat) : Go.Lib.Bytes w g t ⟨(A.drop t).toArray⟩ := by
  intro i hi
  have hi' : i < (A.drop t).length := by have : (ByteArray.mk (A.drop t).toArray).size = (A.drop t).length := rfl; omega
  have hi2 : t + i < A.length := by rw [List.length_drop] at hi'; omega
  rw [h.cell (t + i) hi2, getD_of_lt hi2]
  congr 3
  exact (congrArg UInt8.toNat (List.getElem_drop (h := hi'))).symm

theorem Row.strTail {g : Nat} {A : List UInt8} {w : World} (h : Row g A w) (t : Nat) {N : Nat} (hN : (A.drop t).length = N) (cap q : Nat) :
    (convert 47 9 (.slice (some ⟨g, t, none⟩) N cap)).run Tryd.prog (w.drewN q) = .ok (.string ⟨(A.drop t).toArray⟩) (w.drewN q) := by
  subst hN
  exact Go.Lib.run_convert_whole (P := Tryd.prog) (w.drewN q) 47 5 9 Tryd.underlying47 Tryd.underlying5 Tryd.underlying9 g t ⟨(A.drop t).toArray⟩ ((Row.tail h t).drewN q) cap

theorem arr48 : Tryd.prog.arrayLen 48 = 20 := by kernel_rfl

/-- 'buf[t:]' of the array of twenty -/
theorem slice20 (b t : Nat) (ht : t < 20) (w : World) : (Instr.sliceAt 48 (.pointer (some ⟨b, 0, none⟩)) (some (.int .i64 t)) none none).run Tryd.prog w = .ok (.slice (some ⟨b, t, none⟩) (20 - t) (20 - t)) w := by
  have h := run_sliceAt_array_l (P := Tryd.prog) w 48 ⟨b, 0, none⟩ (by kernel_rfl) .i64 (t : Int) (by omega) (by rw [arr48]; omega)
  have he : Tryd.prog.elem 48 = 5 := by kernel_rfl
  rw [h, he, Tryd.sizeOf5 w, arr48]
  have e20 : ¬ (20 = t) := by omega
  simp only [Result.andThen, slicedAt, Int.toNat_natCast, if_neg e20, Nat.mul_one, add_pl, Nat.zero_add]

set_option maxHeartbeats 400000 in
theorem mag_pos (n : Nat) (w : World) (h0 : 0 < n) (hn : Hid (n < 1000000000000000000)) :
    Calls Tryd.prog 19 #[.int .i64 n] w fun e w' => e = .returned (.tuple #[.bool false, .string ⟨(cd n).toArray⟩]) ∧ Below w.heap.size w w' := by
  have hz : ((n : Int) == 0) = false := by rw [beq_eq_false_iff_ne]; omega
  have hz2 : decide ((n : Int) < 0) = false := by simp
  have HN : Hid (0 < n) := h0
  go_enter Tryd.func19, Tryd.ntmps19
  go_wp2
  go_loopw [4, 7] (fun v i wr => ∃ (a t : Nat) (A : List UInt8), v = .int .i64 a ∧ i = .int .i64 t ∧ MInv n a t A ∧ Row w.heap.size A wr ∧ Below w.heap.size w wr) (fun _ i _ => (RowKit.intOf i).toNat)
  case atStart =>
    refine ⟨n, 20, List.replicate 20 0, rfl, rfl, ⟨Nat.le_refl _, by simp, .inl ⟨h0, by simp⟩⟩, ?_, (Below.refl _ _).alloc (Nat.le_refl _) _⟩
    constructor
    · intro j hj
      have hj' : j < 20 := by simpa using hj
      have : j = 0 ∨ j = 1 ∨ j = 2 ∨ j = 3 ∨ j = 4 ∨ j = 5 ∨ j = 6 ∨ j = 7 ∨ j = 8 ∨ j = 9 ∨ j = 10 ∨ j = 11 ∨ j = 12 ∨ j = 13 ∨ j = 14 ∨ j = 15 ∨ j = 16 ∨ j = 17 ∨ j = 18 ∨ j = 19 := by omega
      rcases this with rfl | rfl | rfl | rfl | rfl | rfl | rfl | rfl | rfl | rfl | rfl | rfl | rfl | rfl | rfl | rfl | rfl | rfl | rfl | rfl
      all_goals simp
    · intro j hj
      simp
  case round =>
    obtain ⟨a, t, A, rfl, rfl, hinv, hrow, hb⟩ := hrel
    by_cases ha : 0 < a
    · have h3 := hinv.room hn.out ha
      obtain ⟨u, rfl⟩ : ∃ u, t = u + 1 := ⟨t - 1, by omega⟩
      have hu : u < 20 := by have := hinv.le; omega
      have hcu := hrow.cell u (by rw [hinv.len]; exact hu)
      have hfu := hrow.free u (by rw [hinv.len]; exact hu)
      go_wp2
      refine ⟨⟨a / 10, u, A.set u (UInt8.ofNat (48 + a % 10)), ?_, rfl, hinv.step ha, hrow.set (by rw [hinv.len]; exact hu) _ ?_, hb.setCell (Nat.le_refl _) _⟩, by simp [RowKit.intOf]⟩
      · rw [wrap64_small (by omega) (by have := hinv.small hn.out; omega)]; rfl
      · rw [dig_nat (by omega)]; omega
    · have ha0 : a = 0 := by omega
      subst ha0
      have HD : Hid (A.drop t = cd n) := hinv.done HN.out
      have ht20 := hinv.le
      have hlen : (A.drop t).length = 20 - t := by rw [List.length_drop, hinv.len]
      have hs : ∀ cap q, (convert 47 9 (.slice (some ⟨w.heap.size, t, none⟩) (20 - t) cap)).run Tryd.prog (wr.drewN q) = .ok (.string ⟨(A.drop t).toArray⟩) (wr.drewN q) := fun cap q => hrow.strTail t hlen cap q
      have ht : t < 20 := by
        have hne : (cd n).length ≠ 0 := by
          rw [cd, if_neg (by omega)]; intro h; exact decDigits_ne n (List.eq_nil_of_length_eq_zero h)
        rw [← HD.out, hlen] at hne; omega
      have hsl := fun q => slice20 w.heap.size t ht (wr.drewN q)
      go_wp2
      go_quiet (fail)
      go_wp2
      go_ret2
      exact ⟨by rw [HD.out]; rfl, below_drewN hb _⟩

set_option maxHeartbeats 400000 in
theorem mag_neg (n : Nat) (w : World) (h0 : 0 < n) (hn : Hid (n < 1000000000000000000)) :
    Calls Tryd.prog 19 #[.int .i64 (-(n : Int))] w fun e w' => e = .returned (.tuple #[.bool true, .string ⟨(cd n).toArray⟩]) ∧ Below w.heap.size w w' := by
  have hz : ((n : Int) == 0) = false := by rw [beq_eq_false_iff_ne]; omega
  have hz2 : decide (-(n : Int) < 0) = true := by simp; omega
  have hw : wrap64 (n : Int) = (n : Int) := wrap64_small (by omega) (by have := hn.out; omega)
  have HN : Hid (0 < n) := h0
  go_enter Tryd.func19, Tryd.ntmps19
  go_wp2
  go_loopw [4, 7] (fun v i wr => ∃ (a t : Nat) (A : List UInt8), v = .int .i64 a ∧ i = .int .i64 t ∧ MInv n a t A ∧ Row w.heap.size A wr ∧ Below w.heap.size w wr) (fun _ i _ => (RowKit.intOf i).toNat)
  case atStart =>
    refine ⟨n, 20, List.replicate 20 0, congrArg (Value.int .i64) hw, rfl, ⟨Nat.le_refl _, by simp, .inl ⟨h0, by simp⟩⟩, ?_, (Below.refl _ _).alloc (Nat.le_refl _) _⟩
    constructor
    · intro j hj
      have hj' : j < 20 := by simpa using hj
      have : j = 0 ∨ j = 1 ∨ j = 2 ∨ j = 3 ∨ j = 4 ∨ j = 5 ∨ j = 6 ∨ j = 7 ∨ j = 8 ∨ j = 9 ∨ j = 10 ∨ j = 11 ∨ j = 12 ∨ j = 13 ∨ j = 14 ∨ j = 15 ∨ j = 16 ∨ j = 17 ∨ j = 18 ∨ j = 19 := by omega
      rcases this with rfl | rfl | rfl | rfl | rfl | rfl | rfl | rfl | rfl | rfl | rfl | rfl | rfl | rfl | rfl | rfl | rfl | rfl | rfl | rfl
      all_goals simp
    · intro j hj
      simp
  case round =>
    obtain ⟨a, t, A, rfl, rfl, hinv, hrow, hb⟩ := hrel
    by_cases ha : 0 < a
    · have h3 := hinv.room hn.out ha
      obtain ⟨u, rfl⟩ : ∃ u, t = u + 1 := ⟨t - 1, by omega⟩
      have hu : u < 20 := by have := hinv.le; omega
      have hcu := hrow.cell u (by rw [hinv.len]; exact hu)
      have hfu := hrow.free u (by rw [hinv.len]; exact hu)
      go_wp2
      refine ⟨⟨a / 10, u, A.set u (UInt8.ofNat (48 + a % 10)), ?_, rfl, hinv.step ha, hrow.set (by rw [hinv.len]; exact hu) _ ?_, hb.setCell (Nat.le_refl _) _⟩, by simp [RowKit.intOf]⟩
      · rw [wrap64_small (by omega) (by have := hinv.small hn.out; omega)]; rfl
      · rw [dig_nat (by omega)]; omega
    · have ha0 : a = 0 := by omega
      subst ha0
      have HD : Hid (A.drop t = cd n) := hinv.done HN.out
      have ht20 := hinv.le
      have hlen : (A.drop t).length = 20 - t := by rw [List.length_drop, hinv.len]
      have hs : ∀ cap q, (convert 47 9 (.slice (some ⟨w.heap.size, t, none⟩) (20 - t) cap)).run Tryd.prog (wr.drewN q) = .ok (.string ⟨(A.drop t).toArray⟩) (wr.drewN q) := fun cap q => hrow.strTail t hlen cap q
      have ht : t < 20 := by
        have hne : (cd n).length ≠ 0 := by
          rw [cd, if_neg (by omega)]; intro h; exact decDigits_ne n (List.eq_nil_of_length_eq_zero h)
        rw [← HD.out, hlen] at hne; omega
      have hsl := fun q => slice20 w.heap.size t ht (wr.drewN q)
      go_wp2
      go_quiet (fail)
      go_wp2
      go_ret2
      exact ⟨by rw [HD.out]; rfl, below_drewN hb _⟩

set_option maxHeartbeats 400000 in
theorem mag_zero (w : World) :
    Calls Tryd.prog 19 #[.int .i64 0] w fun e w' => e = .returned (.tuple #[.bool false, .string ⟨#[]⟩]) ∧ Below w.heap.size w w' := by
  go_enter Tryd.func19, Tryd.ntmps19
  go_wp2
  go_ret2
  exact ⟨rfl, Below.refl _ _⟩

/-- decMagOf, whole -/
theorem mag_any (n : Int) (w : World) (hn : Bnd n) :
    Calls Tryd.prog 19 #[.int .i64 n] w fun e w' => e = .returned (.tuple #[.bool (decide (n < 0)), .string ⟨(cd n.natAbs).toArray⟩]) ∧ Below w.heap.size w w' := by
  have h1 := hn.lo
  have h2 := hn.hi
  rcases Int.lt_trichotomy n 0 with h | h | h
  · obtain ⟨k, rfl⟩ : ∃ k : Nat, n = -(k : Int) := ⟨n.natAbs, by omega⟩
    have e1 : decide (-(k : Int) < 0) = true := by simp; omega
    have e2 : (-(k : Int)).natAbs = k := by omega
    rw [e1, e2]
    exact mag_neg k w (by omega) (by show k < _; omega)
  · subst h
    exact mag_zero w
  · obtain ⟨k, rfl⟩ : ∃ k : Nat, n = (k : Int) := ⟨n.natAbs, by omega⟩
    have e1 : decide ((k : Int) < 0) = false := by simp
    have e2 : (k : Int).natAbs = k := by omega
    rw [e1, e2]
    exact mag_pos k w (by omega) (by show k < _; omega)
end Go.Proofs.Qxb6604011aDoor
