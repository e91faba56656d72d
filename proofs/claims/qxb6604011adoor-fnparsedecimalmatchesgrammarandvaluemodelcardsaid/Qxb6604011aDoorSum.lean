/-
  addMag, subMag: schoolbook sums from the back.
-/
import Derived.Test.Qxb6604011aDoorMag
import Derived.Deep.OwnRows
namespace Go.Proofs.Qxb6604011aDoor
open Go.RowKit

/-- the value of the last k digits -/
def suf (l : List UInt8) (k : Nat) : Nat := val (l.drop (l.length - k))

theorem suf_zero (l : List UInt8) : suf l 0 = 0 := by unfold suf; rw [List.drop_of_length_le (by simp)]; rfl
theorem suf_full (l : List UInt8) : suf l l.length = val l := by unfold suf; simp
theorem suf_over {l : List UInt8} {k : Nat} (h : l.length ≤ k) : suf l k = val l := by unfold suf; rw [show l.length - k = 0 by omega]; rfl
theorem suf_succ {l : List UInt8} {k j : Nat} (h : j + k + 1 = l.length) : suf l (k + 1) = ((l.getD j 0).toNat - 48) * 10 ^ k + suf l k := by
  unfold suf
  have e1 : l.length - (k + 1) = j := by omega
  have e2 : l.length - k = j + 1 := by omega
  have hj : j < l.length := by omega
  rw [e1, e2, List.drop_eq_getElem_cons hj, val_cons, getD_of_lt hj]
  have e3 : (l.drop (j + 1)).length = k := by rw [List.length_drop]; omega
  rw [e3]

/-- the last k bytes of 'A' are the digits of the sum so far -/
structure SInv (x y A : List UInt8) (N k : Nat) (c : Nat) : Prop where
  lenA : A.length = N
  le : k ≤ N
  dig : (A.drop (N - k)).all dg = true
  carry : c ≤ 1
  sum : val (A.drop (N - k)) + c * 10 ^ k = suf x k + suf y k

theorem SInv.step {x y A : List UInt8} {N k c u xd yd d c' : Nat} (h : SInv x y A N k c) (hu : u + k + 1 = N) (hsx : suf x (k + 1) = xd * 10 ^ k + suf x k) (hsy : suf y (k + 1) = yd * 10 ^ k + suf y k)
    (hd : d ≤ 9) (hc : c' ≤ 1) (hs : xd + yd + c = d + 10 * c') : SInv x y (A.set u (UInt8.ofNat (48 + d))) N (k + 1) c' := by
  have hul : u < A.length := by rw [h.lenA]; omega
  have eu : N - (k + 1) = u := by omega
  have eu1 : N - k = u + 1 := by omega
  have hdg : dg (UInt8.ofNat (48 + d)) = true := by rw [dg_iff, dig_nat (by omega)]; omega
  have hdig := h.dig
  have hsum := h.sum
  rw [eu1] at hdig hsum
  refine ⟨by rw [List.length_set, h.lenA], by omega, ?_, hc, ?_⟩
  · rw [eu, drop_set hul, List.all_cons, hdg, hdig]; rfl
  · rw [eu, drop_set hul, val_cons, dig_nat (by omega), hsx, hsy]
    have e3 : (A.drop (u + 1)).length = k := by rw [List.length_drop, h.lenA]; omega
    rw [e3, Nat.pow_succ, show 48 + d - 48 = d by omega]
    generalize 10 ^ k = P at *
    have e4 : (xd + yd + c) * P = (d + 10 * c') * P := by rw [hs]
    rw [Nat.add_mul, Nat.add_mul, Nat.add_mul, Nat.mul_assoc] at e4
    have e5 : c' * (P * 10) = 10 * (c' * P) := by rw [← Nat.mul_assoc, Nat.mul_comm]
    rw [e5]
    omega

theorem SInv.fin {x y A : List UInt8} {n c : Nat} (h : SInv x y A (n + 1) n c) (hx : x.length = n) (hy : y.length ≤ n) :
    (A.set 0 (UInt8.ofNat (48 + c))).all dg = true ∧ val (A.set 0 (UInt8.ofNat (48 + c))) = val x + val y := by
  have hl : 0 < A.length := by rw [h.lenA]; omega
  have hc := h.carry
  have hdg : dg (UInt8.ofNat (48 + c)) = true := by rw [dg_iff, dig_nat (by omega)]; omega
  have hdig := h.dig
  have hsum := h.sum
  have e1 : n + 1 - n = 1 := by omega
  rw [e1] at hdig hsum
  rw [suf_over (by omega), suf_over hy] at hsum
  have es : A.set 0 (UInt8.ofNat (48 + c)) = UInt8.ofNat (48 + c) :: A.drop 1 := by
    have := drop_set hl (UInt8.ofNat (48 + c))
    rwa [List.drop_zero] at this
  rw [es]
  refine ⟨by rw [List.all_cons, hdg, hdig]; rfl, ?_⟩
  have e3 : (A.drop 1).length = n := by rw [List.length_drop, h.lenA]; omega
  rw [val_cons, dig_nat (by omega), e3, show 48 + c - 48 = c by omega]
  omega

theorem suf_at {x : ByteArray} {k j : Nat} (h : j + k + 1 = x.size) (hj : j < x.size) : suf x.data.toList (k + 1) = (x[j].toNat - 48) * 10 ^ k + suf x.data.toList k := by
  have := suf_succ (l := x.data.toList) (k := k) (j := j) (by simpa using h)
  rw [this, getD_of_lt (by simpa using hj)]; rfl

theorem suf_past {y : ByteArray} {k : Nat} (h : ¬ k < y.size) : suf y.data.toList (k + 1) = 0 * 10 ^ k + suf y.data.toList k := by
  rw [suf_over (by simp; omega), suf_over (by simp; omega)]; omega

theorem Row.made (w : World) (n : Nat) : Row w.heap.size (List.replicate n 0) (w.alloc (.cells (madeCells #[.int .u8 0] n) 5)) := by
  constructor
  · intro j hj
    have hj' : j < n := by simpa using hj
    have h1 : (madeCells #[.int .u8 0] n)[j]? = some (.int .u8 0) := by simp [madeCells, hj', Nat.mod_one]
    have h2 : (List.replicate n (0 : UInt8)).getD j 0 = 0 := by simp [List.getD_eq_getElem?_getD, hj']
    rw [h2]
    simp [h1]
  · intro j hj
    simp

set_option maxHeartbeats 400000 in
theorem addMag_walk (x y : ByteArray) (w : World) (hx : x.size ≤ 2097152) (hy : y.size ≤ x.size) (ax : x.data.toList.all dg = true) (ay : y.data.toList.all dg = true) :
    Calls Tryd.prog 20 #[.string x, .string y] w fun e w' => e = .returned (.string ⟨(cd (val x.data.toList + val y.data.toList)).toArray⟩) ∧ Below w.heap.size w w' := by
  have AX : Hid (x.data.toList.all dg = true) := ax
  have AY : Hid (y.data.toList.all dg = true) := ay
  clear ax ay
  have hmk := Go.run_make_row' (P := Tryd.prog) 47 5 (.int .u8 0) 1 Tryd.underlying47 Tryd.info5 rfl .i64 .i64 (x.size + 1) (by omega) (by omega)
  have ec : ((x.size + 1 : Nat) : Int) = (x.size : Int) + 1 := by omega
  rw [ec] at hmk
  clear ec
  go_enter Tryd.func20, Tryd.ntmps20
  go_wp2
  go_loopw [6, 7] (fun cv kv wr => ∃ (c k : Nat) (A : List UInt8), cv = .int .i64 c ∧ kv = .int .i64 k ∧ k ≤ x.size ∧ SInv x.data.toList y.data.toList A (x.size + 1) k c ∧ Row w.heap.size A wr ∧ Below w.heap.size w wr) (fun _ kv _ => x.size - (RowKit.intOf kv).toNat)
  case atStart =>
    refine ⟨0, 0, List.replicate (x.size + 1) 0, rfl, rfl, Nat.zero_le _, ⟨by simp, Nat.zero_le _, ?_, by decide, ?_⟩, Row.made w (x.size + 1), (Below.refl _ _).alloc (Nat.le_refl _) _⟩
    · rw [List.drop_of_length_le (by simp)]; rfl
    · rw [List.drop_of_length_le (by simp), suf_zero, suf_zero]; rfl
  case round =>
    obtain ⟨c, k, A, rfl, rfl, hk, hinv, hrow, hb⟩ := hrel
    clear hmk
    have hc1 := hinv.carry
    by_cases hlt : k < x.size
    · have hul : x.size - k < A.length := by rw [hinv.lenA]; omega
      have hcu := hrow.cell _ hul
      have hfu := hrow.free _ hul
      have HU : Hid (x.size - k < A.length) := hul
      clear hul
      obtain ⟨j, hj⟩ : ∃ j, j + k + 1 = x.size := ⟨x.size - 1 - k, by omega⟩
      have ej : (x.size : Int) - 1 - (k : Int) = (j : Int) := by omega
      have hjx : j < x.size := by omega
      have hji : (j : Int) < (x.size : Int) := by omega
      have HJ : Hid (j + k + 1 = x.size) := hj
      clear hj
      have hdx : 48 ≤ x[j].toNat ∧ x[j].toNat ≤ 57 := dg_iff.1 (List.all_eq_true.1 AX.out x[j] (by rw [byte_list x j hjx]; exact List.getElem_mem _))
      obtain ⟨hdx1, hdx2⟩ := hdx
      by_cases hky : k < y.size
      · obtain ⟨i, hi⟩ : ∃ i, i + k + 1 = y.size := ⟨y.size - 1 - k, by omega⟩
        have ei : (y.size : Int) - 1 - (k : Int) = (i : Int) := by omega
        have hiy : i < y.size := by omega
        have hii : (i : Int) < (y.size : Int) := by omega
        have HI : Hid (i + k + 1 = y.size) := hi
        clear hi
        have hdy : 48 ≤ y[i].toNat ∧ y[i].toNat ≤ 57 := dg_iff.1 (List.all_eq_true.1 AY.out y[i] (by rw [byte_list y i hiy]; exact List.getElem_mem _))
        obtain ⟨hdy1, hdy2⟩ := hdy
        go_wp2
        · refine ⟨⟨1, k + 1, A.set (x.size - k) (UInt8.ofNat (48 + (x[j].toNat - 48 + c + (y[i].toNat - 48) - 10))), rfl, by go_num, by omega, hinv.step (u := x.size - k) (by omega) (suf_at HJ.out hjx) (suf_at HI.out hiy) (by omega) (by omega) (by omega), hrow.set HU.out _ ?_, hb.setCell (Nat.le_refl _) _⟩, by simp [RowKit.intOf]; omega⟩
          rw [dig_nat (by omega)]; omega
        · refine ⟨⟨0, k + 1, A.set (x.size - k) (UInt8.ofNat (48 + (x[j].toNat - 48 + c + (y[i].toNat - 48)))), rfl, by go_num, by omega, hinv.step (u := x.size - k) (by omega) (suf_at HJ.out hjx) (suf_at HI.out hiy) (by omega) (by omega) (by omega), hrow.set HU.out _ ?_, hb.setCell (Nat.le_refl _) _⟩, by simp [RowKit.intOf]; omega⟩
          rw [dig_nat (by omega)]; omega
      · go_wp2
        · refine ⟨⟨1, k + 1, A.set (x.size - k) (UInt8.ofNat (48 + (x[j].toNat - 48 + c - 10))), rfl, by go_num, by omega, hinv.step (u := x.size - k) (by omega) (suf_at HJ.out hjx) (suf_past hky) (by omega) (by omega) (by omega), hrow.set HU.out _ ?_, hb.setCell (Nat.le_refl _) _⟩, by simp [RowKit.intOf]; omega⟩
          rw [dig_nat (by omega)]; omega
        · refine ⟨⟨0, k + 1, A.set (x.size - k) (UInt8.ofNat (48 + (x[j].toNat - 48 + c))), rfl, by go_num, by omega, hinv.step (u := x.size - k) (by omega) (suf_at HJ.out hjx) (suf_past hky) (by omega) (by omega) (by omega), hrow.set HU.out _ ?_, hb.setCell (Nat.le_refl _) _⟩, by simp [RowKit.intOf]; omega⟩
          rw [dig_nat (by omega)]; omega
    · have hkx : k = x.size := by omega
      subst hkx
      obtain ⟨hfa, hfv⟩ := hinv.fin (by simp) (by simpa using hy)
      have hl0 : 0 < A.length := by rw [hinv.lenA]; omega
      have hlen : (A.set 0 (UInt8.ofNat (48 + c))).length = x.size + 1 := by rw [List.length_set, hinv.lenA]
      have hc0 := hrow.cell 0 hl0
      have hf0 := hrow.free 0 hl0
      have hr2 := hrow.set hl0 (UInt8.ofNat (48 + c)) (v := 48 + (c : Int)) (by rw [dig_nat (by omega)]; omega)
      have hs : ∀ cap, (convert 47 9 (.slice (some ⟨w.heap.size, 0, none⟩) (x.size + 1) cap)).run Tryd.prog (wr.setCell ⟨w.heap.size, 0, none⟩ (.int .u8 (48 + (c : Int)))) = .ok (.string ⟨(A.set 0 (UInt8.ofNat (48 + c))).toArray⟩) (wr.setCell ⟨w.heap.size, 0, none⟩ (.int .u8 (48 + (c : Int)))) := fun cap => hr2.str hlen cap 0
      have HS : Hid ((A.set 0 (UInt8.ofNat (48 + c))).dropWhile (· == 48) = cd (val x.data.toList + val y.data.toList)) := by
        show _ = _
        rw [strip _ hfa, hfv]
      have cst := fun w' => strip_any ⟨(A.set 0 (UInt8.ofNat (48 + c))).toArray⟩ w' (by show (A.set 0 (UInt8.ofNat (48 + c))).toArray.size ≤ _; rw [List.size_toArray, hlen]; omega)
      generalize A.set 0 (UInt8.ofNat (48 + c)) = A2 at hs HS cst
      clear hfa hfv hr2 hlen
      go_wp2_with fail
      refine (cst _).mono ?_
      rintro e w2 ⟨rfl, rfl⟩
      go_wp2
      go_ret
      exact ⟨ret_str (by rw [← HS.out]), hb.setCell (Nat.le_refl _) _⟩

set_option maxHeartbeats 400000 in
theorem addMag_swap (x y : ByteArray) (w : World) (hx : x.size ≤ 2097152) (hy' : y.size < x.size) (ax : x.data.toList.all dg = true) (ay : y.data.toList.all dg = true) :
    Calls Tryd.prog 20 #[.string y, .string x] w fun e w' => e = .returned (.string ⟨(cd (val x.data.toList + val y.data.toList)).toArray⟩) ∧ Below w.heap.size w w' := by
  have hy : y.size ≤ x.size := by omega
  have AX : Hid (x.data.toList.all dg = true) := ax
  have AY : Hid (y.data.toList.all dg = true) := ay
  clear ax ay
  have hmk := Go.run_make_row' (P := Tryd.prog) 47 5 (.int .u8 0) 1 Tryd.underlying47 Tryd.info5 rfl .i64 .i64 (x.size + 1) (by omega) (by omega)
  have ec : ((x.size + 1 : Nat) : Int) = (x.size : Int) + 1 := by omega
  rw [ec] at hmk
  clear ec
  go_enter Tryd.func20, Tryd.ntmps20
  go_wp2
  go_loopw [6, 7] (fun cv kv wr => ∃ (c k : Nat) (A : List UInt8), cv = .int .i64 c ∧ kv = .int .i64 k ∧ k ≤ x.size ∧ SInv x.data.toList y.data.toList A (x.size + 1) k c ∧ Row w.heap.size A wr ∧ Below w.heap.size w wr) (fun _ kv _ => x.size - (RowKit.intOf kv).toNat)
  case atStart =>
    refine ⟨0, 0, List.replicate (x.size + 1) 0, rfl, rfl, Nat.zero_le _, ⟨by simp, Nat.zero_le _, ?_, by decide, ?_⟩, Row.made w (x.size + 1), (Below.refl _ _).alloc (Nat.le_refl _) _⟩
    · rw [List.drop_of_length_le (by simp)]; rfl
    · rw [List.drop_of_length_le (by simp), suf_zero, suf_zero]; rfl
  case round =>
    obtain ⟨c, k, A, rfl, rfl, hk, hinv, hrow, hb⟩ := hrel
    clear hmk
    have hc1 := hinv.carry
    by_cases hlt : k < x.size
    · have hul : x.size - k < A.length := by rw [hinv.lenA]; omega
      have hcu := hrow.cell _ hul
      have hfu := hrow.free _ hul
      have HU : Hid (x.size - k < A.length) := hul
      clear hul
      obtain ⟨j, hj⟩ : ∃ j, j + k + 1 = x.size := ⟨x.size - 1 - k, by omega⟩
      have ej : (x.size : Int) - 1 - (k : Int) = (j : Int) := by omega
      have hjx : j < x.size := by omega
      have hji : (j : Int) < (x.size : Int) := by omega
      have HJ : Hid (j + k + 1 = x.size) := hj
      clear hj
      have hdx : 48 ≤ x[j].toNat ∧ x[j].toNat ≤ 57 := dg_iff.1 (List.all_eq_true.1 AX.out x[j] (by rw [byte_list x j hjx]; exact List.getElem_mem _))
      obtain ⟨hdx1, hdx2⟩ := hdx
      by_cases hky : k < y.size
      · obtain ⟨i, hi⟩ : ∃ i, i + k + 1 = y.size := ⟨y.size - 1 - k, by omega⟩
        have ei : (y.size : Int) - 1 - (k : Int) = (i : Int) := by omega
        have hiy : i < y.size := by omega
        have hii : (i : Int) < (y.size : Int) := by omega
        have HI : Hid (i + k + 1 = y.size) := hi
        clear hi
        have hdy : 48 ≤ y[i].toNat ∧ y[i].toNat ≤ 57 := dg_iff.1 (List.all_eq_true.1 AY.out y[i] (by rw [byte_list y i hiy]; exact List.getElem_mem _))
        obtain ⟨hdy1, hdy2⟩ := hdy
        go_wp2
        · refine ⟨⟨1, k + 1, A.set (x.size - k) (UInt8.ofNat (48 + (x[j].toNat - 48 + c + (y[i].toNat - 48) - 10))), rfl, by go_num, by omega, hinv.step (u := x.size - k) (by omega) (suf_at HJ.out hjx) (suf_at HI.out hiy) (by omega) (by omega) (by omega), hrow.set HU.out _ ?_, hb.setCell (Nat.le_refl _) _⟩, by simp [RowKit.intOf]; omega⟩
          rw [dig_nat (by omega)]; omega
        · refine ⟨⟨0, k + 1, A.set (x.size - k) (UInt8.ofNat (48 + (x[j].toNat - 48 + c + (y[i].toNat - 48)))), rfl, by go_num, by omega, hinv.step (u := x.size - k) (by omega) (suf_at HJ.out hjx) (suf_at HI.out hiy) (by omega) (by omega) (by omega), hrow.set HU.out _ ?_, hb.setCell (Nat.le_refl _) _⟩, by simp [RowKit.intOf]; omega⟩
          rw [dig_nat (by omega)]; omega
      · go_wp2
        · refine ⟨⟨1, k + 1, A.set (x.size - k) (UInt8.ofNat (48 + (x[j].toNat - 48 + c - 10))), rfl, by go_num, by omega, hinv.step (u := x.size - k) (by omega) (suf_at HJ.out hjx) (suf_past hky) (by omega) (by omega) (by omega), hrow.set HU.out _ ?_, hb.setCell (Nat.le_refl _) _⟩, by simp [RowKit.intOf]; omega⟩
          rw [dig_nat (by omega)]; omega
        · refine ⟨⟨0, k + 1, A.set (x.size - k) (UInt8.ofNat (48 + (x[j].toNat - 48 + c))), rfl, by go_num, by omega, hinv.step (u := x.size - k) (by omega) (suf_at HJ.out hjx) (suf_past hky) (by omega) (by omega) (by omega), hrow.set HU.out _ ?_, hb.setCell (Nat.le_refl _) _⟩, by simp [RowKit.intOf]; omega⟩
          rw [dig_nat (by omega)]; omega
    · have hkx : k = x.size := by omega
      subst hkx
      obtain ⟨hfa, hfv⟩ := hinv.fin (by simp) (by simpa using hy)
      have hl0 : 0 < A.length := by rw [hinv.lenA]; omega
      have hlen : (A.set 0 (UInt8.ofNat (48 + c))).length = x.size + 1 := by rw [List.length_set, hinv.lenA]
      have hc0 := hrow.cell 0 hl0
      have hf0 := hrow.free 0 hl0
      have hr2 := hrow.set hl0 (UInt8.ofNat (48 + c)) (v := 48 + (c : Int)) (by rw [dig_nat (by omega)]; omega)
      have hs : ∀ cap, (convert 47 9 (.slice (some ⟨w.heap.size, 0, none⟩) (x.size + 1) cap)).run Tryd.prog (wr.setCell ⟨w.heap.size, 0, none⟩ (.int .u8 (48 + (c : Int)))) = .ok (.string ⟨(A.set 0 (UInt8.ofNat (48 + c))).toArray⟩) (wr.setCell ⟨w.heap.size, 0, none⟩ (.int .u8 (48 + (c : Int)))) := fun cap => hr2.str hlen cap 0
      have HS : Hid ((A.set 0 (UInt8.ofNat (48 + c))).dropWhile (· == 48) = cd (val x.data.toList + val y.data.toList)) := by
        show _ = _
        rw [strip _ hfa, hfv]
      have cst := fun w' => strip_any ⟨(A.set 0 (UInt8.ofNat (48 + c))).toArray⟩ w' (by show (A.set 0 (UInt8.ofNat (48 + c))).toArray.size ≤ _; rw [List.size_toArray, hlen]; omega)
      generalize A.set 0 (UInt8.ofNat (48 + c)) = A2 at hs HS cst
      clear hfa hfv hr2 hlen
      go_wp2_with fail
      refine (cst _).mono ?_
      rintro e w2 ⟨rfl, rfl⟩
      go_wp2
      go_ret
      exact ⟨ret_str (by rw [← HS.out]), hb.setCell (Nat.le_refl _) _⟩

/-- addMag: the canonical numeral of the sum -/
theorem addMag_any (x y : ByteArray) (w : World) (hx : x.size ≤ 2097152) (hy : y.size ≤ 2097152) (ax : x.data.toList.all dg = true) (ay : y.data.toList.all dg = true) :
    Calls Tryd.prog 20 #[.string x, .string y] w fun e w' => e = .returned (.string ⟨(cd (val x.data.toList + val y.data.toList)).toArray⟩) ∧ Below w.heap.size w w' := by
  by_cases h : y.size ≤ x.size
  · exact addMag_walk x y w hx h ax ay
  · rw [Nat.add_comm (val x.data.toList)]
    exact addMag_swap y x w hy (by omega) ay ax
end Go.Proofs.Qxb6604011aDoor
