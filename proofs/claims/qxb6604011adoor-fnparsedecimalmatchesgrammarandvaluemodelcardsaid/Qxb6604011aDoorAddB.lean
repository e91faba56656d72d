/-
  (integer).add: the long road, digit by digit.
-/
import Derived.Test.Qxb6604011aDoorAddA
import Derived.Lib.ConvBytes
namespace Go.Proofs.Qxb6604011aDoor
open Go.RowKit Go.Lib

/-- what holds of the digits 'L' when the carry 'c' is still to be added with 'k' digits left -/
structure Inv (T : Int) (N : Nat) (c : Int) (k : Nat) (L : List UInt8) : Prop where
  le : k ≤ N
  len : L.length = N
  dig : L.all dg = true
  sum : (val L : Int) + c * ((10 ^ (N - k) : Nat) : Int) = T
  lo : -1000000000000000000 ≤ c
  hi : c ≤ 1000000000000000000

/-- the row 'g' of the world holds the digits, and may be written -/
structure Row (g : Nat) (L : List UInt8) (w : World) : Prop where
  cell : ∀ j, j < L.length → w.cell? ⟨g, j, none⟩ = some (.int .u8 (L.getD j 0).toNat)
  free : ∀ j, j < L.length → w.frozen? ⟨g, j, none⟩ = false

theorem Row.bytes (w : World) (m : ByteArray) : Row w.heap.size m.data.toList (bytesWorld w 5 m) := by
  constructor
  · intro j hj
    exact bytesWorld_cell w 5 m j (by simpa using hj)
  · intro j hj
    have hj' : j < m.size := by simpa using hj
    have hsz : j < (bytesCells w 5 m).size := by simp [bytesCells]; omega
    simp [World.frozen?, bytesWorld_at_new]
    omega

theorem getD_of_lt {L : List UInt8} {j : Nat} (h : j < L.length) : L.getD j 0 = L[j] := by
  rw [List.getD_eq_getElem?_getD, List.getElem?_eq_getElem h]; rfl

theorem split_at {L : List UInt8} {j : Nat} (h : j < L.length) : L = L.take j ++ (L.getD j 0 :: L.drop (j + 1)) := by
  rw [getD_of_lt h, ← List.drop_eq_getElem_cons h, List.take_append_drop]

theorem set_at {L : List UInt8} {j : Nat} (h : j < L.length) (y : UInt8) : L.set j y = L.take j ++ (y :: L.drop (j + 1)) := by
  rw [List.set_eq_take_append_cons_drop, if_pos h]

theorem val_set {L : List UInt8} {j : Nat} (h : j < L.length) (y : UInt8) (hx : dg (L.getD j 0) = true) (hy : dg y = true) :
    (val (L.set j y) : Int) = val L + ((y.toNat : Int) - (L.getD j 0).toNat) * ((10 ^ (L.length - (j + 1)) : Nat) : Int) := by
  have hx' := dg_iff.1 hx
  have hy' := dg_iff.1 hy
  have e1 : val (L.set j y) = val (L.take j) * 10 ^ (L.drop (j + 1)).length * 10 + (y.toNat - 48) * 10 ^ (L.drop (j + 1)).length + val (L.drop (j + 1)) := by
    rw [set_at h, val_append, val_cons, List.length_cons, Nat.pow_succ, ← Nat.mul_assoc, Nat.add_assoc]
  have e2 : val L = val (L.take j) * 10 ^ (L.drop (j + 1)).length * 10 + ((L.getD j 0).toNat - 48) * 10 ^ (L.drop (j + 1)).length + val (L.drop (j + 1)) := by
    conv => lhs; rw [split_at h]
    rw [val_append, val_cons, List.length_cons, Nat.pow_succ, ← Nat.mul_assoc, Nat.add_assoc]
  have e3 : (L.drop (j + 1)).length = L.length - (j + 1) := by simp
  rw [e3] at e1 e2
  rw [e1, e2]
  generalize 10 ^ (L.length - (j + 1)) = P
  generalize (L.getD j 0).toNat = a at *
  generalize y.toNat = b at *
  generalize val (L.take j) * P * 10 = u
  generalize val (L.drop (j + 1)) = v
  obtain ⟨a', rfl⟩ : ∃ a', a = a' + 48 := ⟨a - 48, by omega⟩
  obtain ⟨b', rfl⟩ : ∃ b', b = b' + 48 := ⟨b - 48, by omega⟩
  simp only [Nat.add_sub_cancel]
  have e4 : ((b' + 48 : Nat) : Int) - ((a' + 48 : Nat) : Int) = (b' : Int) - a' := by omega
  rw [e4, Int.sub_mul]
  have e5 : ((u + b' * P + v : Nat) : Int) = u + b' * P + v := by rw [Int.natCast_add, Int.natCast_add, Int.natCast_mul]
  have e6 : ((u + a' * P + v : Nat) : Int) = u + a' * P + v := by rw [Int.natCast_add, Int.natCast_add, Int.natCast_mul]
  rw [e5, e6]
  omega

theorem all_set {L : List UInt8} (j : Nat) {y : UInt8} (h : L.all dg = true) (hy : dg y = true) : (L.set j y).all dg = true := by
  rw [List.all_eq_true] at *
  intro c hc
  rcases List.mem_or_eq_of_mem_set hc with h1 | h1
  · exact h c h1
  · rw [h1]; exact hy

/-- one digit more -/
theorem Inv.step {T : Int} {N j : Nat} {c : Int} {L : List UInt8} (h : Inv T N c (j + 1) L) (g q : Int) (h0 : 0 ≤ g) (h9 : g ≤ 9) (hs : ((L.getD j 0).toNat : Int) - 48 + c = g + 10 * q)
    (hlo : -1000000000000000000 ≤ q) (hhi : q ≤ 1000000000000000000) : Inv T N q j (L.set j (UInt8.ofNat (48 + g).toNat)) := by
  have hjN : j < N := h.le
  have hjL : j < L.length := by rw [h.len]; exact hjN
  have hx : dg (L.getD j 0) = true := by
    rw [getD_of_lt hjL]; exact List.all_eq_true.1 h.dig _ (List.getElem_mem _)
  have hyn : (UInt8.ofNat (48 + g).toNat).toNat = (48 + g).toNat := by rw [UInt8.toNat_ofNat']; omega
  have hy : dg (UInt8.ofNat (48 + g).toNat) = true := by rw [dg_iff, hyn]; omega
  refine ⟨Nat.le_of_lt hjN, by rw [List.length_set, h.len], all_set _ h.dig hy, ?_, hlo, hhi⟩
  rw [val_set hjL _ hx hy, hyn, h.len, ← h.sum]
  have e1 : N - j = N - (j + 1) + 1 := by omega
  rw [e1, Nat.pow_succ]
  generalize 10 ^ (N - (j + 1)) = P
  have e2 : (((48 + g).toNat : Nat) : Int) - ((L.getD j 0).toNat : Int) = c - 10 * q := by omega
  rw [e2, Int.sub_mul, Int.natCast_mul, ← Int.mul_assoc]
  have e3 : q * (P : Int) * ((10 : Nat) : Int) = 10 * q * (P : Int) := by
    rw [Int.mul_comm (q * (P : Int)), ← Int.mul_assoc]; rfl
  rw [e3]
  omega

theorem Inv.done0 {T : Int} {N k : Nat} {L : List UInt8} (h : Inv T N 0 k L) : trimLeftB L 48 = cd T.toNat := by
  have e : val L = T.toNat := by have := h.sum; rw [Int.zero_mul] at this; omega
  show L.dropWhile (· == 48) = _
  rw [strip L h.dig, e]

theorem Inv.doneB {T : Int} {N : Nat} {c : Int} {L : List UInt8} (h : Inv T N c 0 L) (hc : 0 < c) : trimLeftB (itoa c ++ L) 48 = cd T.toNat := by
  have ei : itoa c = decDigits c.natAbs := by unfold itoa; rw [if_neg (by omega), show c.toNat = c.natAbs by omega]
  have ea : (decDigits c.natAbs ++ L).all dg = true := by rw [List.all_append, decDigits_all, h.dig]; rfl
  show (itoa c ++ L).dropWhile (· == 48) = _
  rw [ei, strip _ ea, val_append, val_decDigits]
  have e := h.sum
  rw [Nat.sub_zero, ← h.len] at e
  have e2 : ((c.natAbs * 10 ^ L.length + val L : Nat) : Int) = T := by
    rw [Int.natCast_add, Int.natCast_mul, ← e, show ((c.natAbs : Nat) : Int) = c by omega, Int.add_comm]
  have e3 : c.natAbs * 10 ^ L.length + val L = T.toNat := by omega
  rw [e3]

theorem Inv.nonneg {T : Int} {N : Nat} {c : Int} {L : List UInt8} (h : Inv T N c 0 L) (hT : 0 < T) : 0 ≤ c := by
  have e := h.sum
  have hv := val_lt L h.dig
  rw [h.len] at hv
  rw [Nat.sub_zero] at e
  generalize 10 ^ N = P at e hv
  by_cases hc : 0 ≤ c
  · exact hc
  · exfalso
    have h1 : c * (P : Int) ≤ (-1) * (P : Int) := Int.mul_le_mul_of_nonneg_right (by omega) (by omega)
    omega

theorem tmod_lo (c : Int) : -9 ≤ c.tmod 10 := by have := Int.tmod_lt_of_pos c (show (0 : Int) < 10 by decide); have h2 := Int.tmod_lt_of_pos (-c) (show (0 : Int) < 10 by decide); rw [Int.neg_tmod] at h2; omega
theorem tmod_hi (c : Int) : c.tmod 10 ≤ 9 := by have := Int.tmod_lt_of_pos c (show (0 : Int) < 10 by decide); omega
theorem tdiv_sum (c : Int) : c = c.tmod 10 + 10 * c.tdiv 10 := (Int.tmod_add_mul_tdiv c 10).symm
theorem tdiv_bnd (c : Int) (h1 : -1000000000000000000 ≤ c) (h2 : c ≤ 1000000000000000000) : -100000000000000001 ≤ c.tdiv 10 ∧ c.tdiv 10 ≤ 100000000000000001 := by
  have a := tdiv_sum c; have b := tmod_lo c; have d := tmod_hi c
  omega
end Go.Proofs.Qxb6604011aDoor
