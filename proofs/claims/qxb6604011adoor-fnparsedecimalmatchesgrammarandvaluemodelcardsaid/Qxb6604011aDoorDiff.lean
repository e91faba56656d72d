/-
  subMag: the schoolbook difference, from the back.
-/
import Derived.Test.Qxb6604011aDoorSum
namespace Go.Proofs.Qxb6604011aDoor
open Go.RowKit

/-- the last k bytes of 'A' are the digits of the difference so far -/
structure DInv (x y A : List UInt8) (N k : Nat) (b : Nat) : Prop where
  lenA : A.length = N
  le : k ≤ N
  dig : (A.drop (N - k)).all dg = true
  borrow : b ≤ 1
  sum : val (A.drop (N - k)) + suf y k = suf x k + b * 10 ^ k

theorem DInv.step {x y A : List UInt8} {N k b u xd yd d b' : Nat} (h : DInv x y A N k b) (hu : u + k + 1 = N) (hsx : suf x (k + 1) = xd * 10 ^ k + suf x k) (hsy : suf y (k + 1) = yd * 10 ^ k + suf y k)
    (hd : d ≤ 9) (hb : b' ≤ 1) (hs : xd + 10 * b' = d + yd + b) : DInv x y (A.set u (UInt8.ofNat (48 + d))) N (k + 1) b' := by
  have hul : u < A.length := by rw [h.lenA]; omega
  have eu : N - (k + 1) = u := by omega
  have eu1 : N - k = u + 1 := by omega
  have hdg : dg (UInt8.ofNat (48 + d)) = true := by rw [dg_iff, dig_nat (by omega)]; omega
  have hdig := h.dig
  have hsum := h.sum
  rw [eu1] at hdig hsum
  refine ⟨by rw [List.length_set, h.lenA], by omega, ?_, hb, ?_⟩
  · rw [eu, drop_set hul, List.all_cons, hdg, hdig]; rfl
  · rw [eu, drop_set hul, val_cons, dig_nat (by omega), hsx, hsy]
    have e3 : (A.drop (u + 1)).length = k := by rw [List.length_drop, h.lenA]; omega
    rw [e3, Nat.pow_succ, show 48 + d - 48 = d by omega]
    generalize 10 ^ k = P at *
    have e4 : (xd + 10 * b') * P = (d + yd + b) * P := by rw [hs]
    rw [Nat.add_mul, Nat.add_mul, Nat.add_mul, Nat.mul_assoc] at e4
    have e5 : b' * (P * 10) = 10 * (b' * P) := by rw [← Nat.mul_assoc, Nat.mul_comm]
    rw [e5]
    omega

theorem DInv.fin {x y A : List UInt8} {n b : Nat} (h : DInv x y A n n b) (hx : x.length = n) (hy : y.length ≤ n) (hv : val y ≤ val x) :
    A.all dg = true ∧ val A = val x - val y := by
  have hdig := h.dig
  have hsum := h.sum
  have hb := h.borrow
  rw [Nat.sub_self, List.drop_zero] at hdig hsum
  rw [suf_over (l := x) (by omega), suf_over (l := y) hy] at hsum
  have hl := val_lt A hdig
  rw [h.lenA] at hl
  have hb0 : b = 0 := by
    refine Classical.byContradiction fun hne => ?_
    have : b = 1 := by omega
    subst this
    rw [Nat.one_mul] at hsum
    omega
  subst hb0
  rw [Nat.zero_mul] at hsum
  exact ⟨hdig, by omega⟩

set_option maxHeartbeats 400000 in
theorem subMag_any (x y : ByteArray) (w : World) (hx : x.size ≤ 2097152) (hy : y.size ≤ x.size) (ax : x.data.toList.all dg = true) (ay : y.data.toList.all dg = true) (hv : val y.data.toList ≤ val x.data.toList) :
    Calls Tryd.prog 22 #[.string x, .string y] w fun e w' => e = .returned (.string ⟨(cd (val x.data.toList - val y.data.toList)).toArray⟩) ∧ Below w.heap.size w w' := by
  have AX : Hid (x.data.toList.all dg = true) := ax
  have AY : Hid (y.data.toList.all dg = true) := ay
  have HV : Hid (val y.data.toList ≤ val x.data.toList) := hv
  clear ax ay hv
  have hmk := Go.run_make_row' (P := Tryd.prog) 47 5 (.int .u8 0) 1 Tryd.underlying47 Tryd.info5 rfl .i64 .i64 x.size (by omega) (by omega)
  go_enter Tryd.func22, Tryd.ntmps22
  go_wp2
  go_loopw [6, 7] (fun cv kv wr => ∃ (c k : Nat) (A : List UInt8), cv = .int .i64 c ∧ kv = .int .i64 k ∧ k ≤ x.size ∧ DInv x.data.toList y.data.toList A x.size k c ∧ Row w.heap.size A wr ∧ Below w.heap.size w wr) (fun _ kv _ => x.size - (RowKit.intOf kv).toNat)
  case atStart =>
    refine ⟨0, 0, List.replicate x.size 0, rfl, rfl, Nat.zero_le _, ⟨by simp, Nat.zero_le _, ?_, by decide, ?_⟩, Row.made w x.size, (Below.refl _ _).alloc (Nat.le_refl _) _⟩
    · rw [List.drop_of_length_le (by simp)]; rfl
    · rw [List.drop_of_length_le (by simp), suf_zero, suf_zero]; rfl
  case round =>
    obtain ⟨c, k, A, rfl, rfl, hk, hinv, hrow, hb⟩ := hrel
    clear hmk
    have hc1 := hinv.borrow
    by_cases hlt : k < x.size
    · obtain ⟨j, hj⟩ : ∃ j, j + k + 1 = x.size := ⟨x.size - 1 - k, by omega⟩
      have hul : j < A.length := by rw [hinv.lenA]; omega
      have hcu := hrow.cell _ hul
      have hfu := hrow.free _ hul
      have HU : Hid (j < A.length) := hul
      clear hul
      have ej : (x.size : Int) - 1 - (k : Int) = (j : Int) := by omega
      have hjx : j < x.size := by omega
      have hji : (j : Int) < (x.size : Int) := by omega
      have HJ : Hid (j + k + 1 = x.size) := hj
      clear hj
      have hdx : 48 ≤ x[j].toNat ∧ x[j].toNat ≤ 57 := dg_iff.1 (List.all_eq_true.1 AX.out x[j] (by rw [byte_list x j hjx]; exact List.getElem_mem _))
      obtain ⟨hdx1, hdx2⟩ := hdx
      by_cases hky : k < y.size
      · obtain ⟨i, hi⟩ : ∃ i, i + k + 1 = y.size := ⟨y.size - 1 - k, by omega⟩
        have ei : (y.size : Int) - 1 - (k : Int) = (i : Int) := by omega
        have hiy : i < y.size := by omega
        have hii : (i : Int) < (y.size : Int) := by omega
        have HI : Hid (i + k + 1 = y.size) := hi
        clear hi
        have hdy : 48 ≤ y[i].toNat ∧ y[i].toNat ≤ 57 := dg_iff.1 (List.all_eq_true.1 AY.out y[i] (by rw [byte_list y i hiy]; exact List.getElem_mem _))
        obtain ⟨hdy1, hdy2⟩ := hdy
        go_wp2
        · refine ⟨⟨1, k + 1, A.set j (UInt8.ofNat (48 + (10 + (x[j].toNat - 48) - c - (y[i].toNat - 48)))), rfl, by go_num, by omega, hinv.step (u := j) HJ.out (suf_at HJ.out hjx) (suf_at HI.out hiy) (by omega) (by omega) (by omega), hrow.set HU.out _ ?_, hb.setCell (Nat.le_refl _) _⟩, by simp [RowKit.intOf]; omega⟩
          rw [dig_nat (by omega)]; omega
        · refine ⟨⟨0, k + 1, A.set j (UInt8.ofNat (48 + (x[j].toNat - 48 - c - (y[i].toNat - 48)))), rfl, by go_num, by omega, hinv.step (u := j) HJ.out (suf_at HJ.out hjx) (suf_at HI.out hiy) (by omega) (by omega) (by omega), hrow.set HU.out _ ?_, hb.setCell (Nat.le_refl _) _⟩, by simp [RowKit.intOf]; omega⟩
          rw [dig_nat (by omega)]; omega
      · go_wp2
        · refine ⟨⟨1, k + 1, A.set j (UInt8.ofNat (48 + (10 + (x[j].toNat - 48) - c))), rfl, by go_num, by omega, hinv.step (u := j) HJ.out (suf_at HJ.out hjx) (suf_past hky) (by omega) (by omega) (by omega), hrow.set HU.out _ ?_, hb.setCell (Nat.le_refl _) _⟩, by simp [RowKit.intOf]; omega⟩
          rw [dig_nat (by omega)]; omega
        · refine ⟨⟨0, k + 1, A.set j (UInt8.ofNat (48 + (x[j].toNat - 48 - c))), rfl, by go_num, by omega, hinv.step (u := j) HJ.out (suf_at HJ.out hjx) (suf_past hky) (by omega) (by omega) (by omega), hrow.set HU.out _ ?_, hb.setCell (Nat.le_refl _) _⟩, by simp [RowKit.intOf]; omega⟩
          rw [dig_nat (by omega)]; omega
    · have hkx : k = x.size := by omega
      subst hkx
      obtain ⟨hfa, hfv⟩ := hinv.fin (by simp) (by simpa using hy) HV.out
      have hlen : A.length = x.size := hinv.lenA
      have hs : ∀ cap, (convert 47 9 (.slice (some ⟨w.heap.size, 0, none⟩) x.size cap)).run Tryd.prog wr = .ok (.string ⟨A.toArray⟩) wr := fun cap => hrow.str hlen cap 0
      have HS : Hid (A.dropWhile (· == 48) = cd (val x.data.toList - val y.data.toList)) := by
        show _ = _
        rw [strip _ hfa, hfv]
      have cst := fun w' => strip_any ⟨A.toArray⟩ w' (by show A.toArray.size ≤ _; rw [List.size_toArray, hlen]; omega)
      clear hfa hfv hlen
      go_wp2_with fail
      refine (cst _).mono ?_
      rintro e w2 ⟨rfl, rfl⟩
      go_wp2
      go_ret
      exact ⟨ret_str (by rw [← HS.out]), hb⟩
end Go.Proofs.Qxb6604011aDoor
