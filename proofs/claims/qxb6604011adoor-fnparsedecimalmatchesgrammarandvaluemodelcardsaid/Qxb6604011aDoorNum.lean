/-
  Decimal numerals: plain mathematics, no Go.
-/
import Derived.Lib.ItoaNum
import Derived.Lib.ItoaMem
import Derived.Lib.ParseIntB
import Derived.Lib.Strings
namespace Go.Proofs.Qxb6604011aDoor
open Go Go.Lib

/-- an ASCII digit -/
def dg (c : UInt8) : Bool := decide (48 ≤ c.toNat) && decide (c.toNat ≤ 57)
theorem dg_iff {c : UInt8} : dg c = true ↔ 48 ≤ c.toNat ∧ c.toNat ≤ 57 := by simp [dg]

/-- the value of a numeral -/
def valFrom (a : Nat) : List UInt8 → Nat
  | [] => a
  | c :: r => valFrom (a * 10 + (c.toNat - 48)) r
def val (l : List UInt8) : Nat := valFrom 0 l

theorem valFrom_eq (l : List UInt8) : ∀ a : Nat, valFrom a l = a * 10 ^ l.length + val l := by
  induction l with
  | nil => intro a; show a = a * 1 + 0; omega
  | cons c r ih =>
    intro a
    have h1 : valFrom a (c :: r) = (a * 10 + (c.toNat - 48)) * 10 ^ r.length + val r := ih _
    have h2 : val (c :: r) = (0 * 10 + (c.toNat - 48)) * 10 ^ r.length + val r := ih _
    rw [h1, h2, List.length_cons, Nat.pow_succ]
    generalize 10 ^ r.length = P
    generalize c.toNat - 48 = d
    have e1 : (a * 10 + d) * P = a * 10 * P + d * P := Nat.add_mul _ _ _
    have e2 : (0 * 10 + d) * P = d * P := by simp
    have e3 : a * (P * 10) = a * 10 * P := by rw [Nat.mul_comm P 10, Nat.mul_assoc]
    rw [e1, e2, e3, Nat.add_assoc]

theorem val_nil : val [] = 0 := rfl
theorem val_cons (c : UInt8) (r : List UInt8) : val (c :: r) = (c.toNat - 48) * 10 ^ r.length + val r := by
  show valFrom (0 * 10 + (c.toNat - 48)) r = _
  rw [valFrom_eq]; simp

theorem val_append : ∀ (l r : List UInt8), val (l ++ r) = val l * 10 ^ r.length + val r
  | [], r => by simp [val_nil]
  | c :: l, r => by
    rw [List.cons_append, val_cons, val_cons, val_append l r, List.length_append, Nat.pow_add, Nat.add_mul, Nat.mul_assoc, Nat.add_assoc]

theorem val_lt : ∀ (l : List UInt8), l.all dg = true → val l < 10 ^ l.length
  | [], _ => by simp [val_nil]
  | c :: r, h => by
    simp only [List.all_cons, Bool.and_eq_true] at h
    have hc := dg_iff.1 h.1
    have hr := val_lt r h.2
    rw [val_cons, List.length_cons, Nat.pow_succ]
    have h9 : (c.toNat - 48) * 10 ^ r.length ≤ 9 * 10 ^ r.length := Nat.mul_le_mul_right _ (by omega)
    omega

theorem val_snoc (l : List UInt8) (c : UInt8) : val (l ++ [c]) = val l * 10 + (c.toNat - 48) := by
  rw [val_append, val_cons]; simp [val_nil]

/-- the canonical numeral: nothing for zero -/
def cd (n : Nat) : List UInt8 := if n = 0 then [] else decDigits n

/-- a canonical numeral: digits, the first not zero -/
def can (l : List UInt8) : Prop := l.all dg = true ∧ l.head? ≠ some 48

theorem decDigits_small {u : Nat} (h : u < 10) : decDigits u = [UInt8.ofNat (48 + u)] := by rw [decDigits, dif_pos h]
theorem decDigits_big {u : Nat} (h : ¬ u < 10) : decDigits u = decDigits (u / 10) ++ [UInt8.ofNat (48 + u % 10)] := by rw [decDigits, dif_neg h]

theorem dig_nat {d : Nat} (h : d < 10) : (UInt8.ofNat (48 + d)).toNat = 48 + d := by
  rw [UInt8.toNat_ofNat']; omega

theorem decDigits_facts : ∀ (n u : Nat), u ≤ n → (decDigits u).all dg = true ∧ val (decDigits u) = u ∧ decDigits u ≠ []
  | n, u, h => by
    by_cases hu : u < 10
    · rw [decDigits_small hu]
      refine ⟨?_, ?_, by simp⟩
      · simp [dg]; omega
      · rw [val_cons, dig_nat hu]; simp [val_nil]
    · match n, h with
      | 0, h => omega
      | n + 1, h =>
        have ih := decDigits_facts n (u / 10) (by omega)
        rw [decDigits_big hu]
        refine ⟨?_, ?_, by simp⟩
        · rw [List.all_append, ih.1]
          simp [dg]; omega
        · rw [val_snoc, ih.2.1, dig_nat (Nat.mod_lt u (by decide : 10 > 0))]; omega

theorem decDigits_all (u : Nat) : (decDigits u).all dg = true := (decDigits_facts u u (Nat.le_refl _)).1
theorem val_decDigits (u : Nat) : val (decDigits u) = u := (decDigits_facts u u (Nat.le_refl _)).2.1
theorem decDigits_ne (u : Nat) : decDigits u ≠ [] := (decDigits_facts u u (Nat.le_refl _)).2.2

theorem val_pos {c : UInt8} {r : List UInt8} (h : dg c = true) (h0 : c ≠ 48) : 10 ^ r.length ≤ val (c :: r) := by
  have hc := dg_iff.1 h
  have : c.toNat ≠ 48 := fun e => h0 (UInt8.toNat_inj.1 e)
  rw [val_cons]
  have h1 : 1 * 10 ^ r.length ≤ (c.toNat - 48) * 10 ^ r.length := Nat.mul_le_mul_right _ (by omega)
  omega

/-- a numeral without a leading zero is the numeral of its value -/
theorem dec_val : ∀ (n : Nat) (l : List UInt8), l.length = n → l.all dg = true → l ≠ [] → l.head? ≠ some 48 → decDigits (val l) = l
  | 0, l, hn, _, hne, _ => absurd (List.eq_nil_of_length_eq_zero hn) hne
  | n + 1, l, hn, ha, hne, h0 => by
    have hl : l = l.dropLast ++ [l.getLast hne] := (List.dropLast_concat_getLast hne).symm
    generalize l.getLast hne = c at hl
    generalize hr : l.dropLast = r at hl
    have hlen : r.length = n := by rw [← hr]; simp [hn]
    subst hl
    rw [List.all_append] at ha
    simp only [List.all_cons, List.all_nil, Bool.and_true, Bool.and_eq_true] at ha
    have hc := dg_iff.1 ha.2
    rw [val_snoc]
    cases r with
    | nil =>
      simp only [val_nil, List.nil_append]
      rw [decDigits_small (by omega)]
      have : UInt8.ofNat (48 + (0 * 10 + (c.toNat - 48))) = c := by
        apply UInt8.toNat_inj.1; rw [UInt8.toNat_ofNat']; omega
      rw [this]
    | cons a t =>
      have ha0 : a ≠ 48 := by simpa using h0
      have hda : dg a = true := by have := ha.1; simp only [List.all_cons, Bool.and_eq_true] at this; exact this.1
      have hp := val_pos (r := t) hda ha0
      have h1 : 1 ≤ 10 ^ t.length := Nat.one_le_pow _ _ (by decide)
      have ih := dec_val n (a :: t) hlen ha.1 (by simp) (by simpa using ha0)
      rw [decDigits_big (by omega), show (val (a :: t) * 10 + (c.toNat - 48)) / 10 = val (a :: t) by omega, ih, show (val (a :: t) * 10 + (c.toNat - 48)) % 10 = c.toNat - 48 by omega]
      have : UInt8.ofNat (48 + (c.toNat - 48)) = c := by
        apply UInt8.toNat_inj.1; rw [UInt8.toNat_ofNat']; omega
      rw [this]

theorem drop_zeros : ∀ (l : List UInt8), l.all dg = true → (l.dropWhile (· == 48)).all dg = true ∧ val (l.dropWhile (· == 48)) = val l ∧ (l.dropWhile (· == 48)).head? ≠ some 48
  | [], _ => by simp
  | c :: r, h => by
    by_cases hc : c = 48
    · subst hc
      simp only [List.all_cons, Bool.and_eq_true] at h
      have ih := drop_zeros r h.2
      rw [List.dropWhile_cons, if_pos (by simp)]
      refine ⟨ih.1, ?_, ih.2.2⟩
      rw [ih.2.1, val_cons]; simp
    · rw [List.dropWhile_cons, if_neg (by simpa using hc)]
      exact ⟨h, rfl, by simpa using hc⟩

/-- leading zeros cut off: the canonical numeral of the value -/
theorem strip (l : List UInt8) (h : l.all dg = true) : l.dropWhile (· == 48) = cd (val l) := by
  obtain ⟨h1, h2, h3⟩ := drop_zeros l h
  rw [← h2]
  generalize l.dropWhile (· == 48) = t at *
  unfold cd
  cases t with
  | nil => rfl
  | cons c r =>
    have hc0 : c ≠ 48 := by simpa using h3
    have hdc : dg c = true := by simp only [List.all_cons, Bool.and_eq_true] at h1; exact h1.1
    have hp := val_pos (r := r) hdc hc0
    have h1' : 1 ≤ 10 ^ r.length := Nat.one_le_pow _ _ (by decide)
    rw [if_neg (by omega)]
    exact (dec_val _ _ rfl h1 (by simp) h3).symm

theorem cd_val {l : List UInt8} (h : can l) : cd (val l) = l := by
  rw [← strip l h.1]
  cases l with
  | nil => rfl
  | cons c r => rw [List.dropWhile_cons, if_neg]; simpa using h.2

theorem val_cd (n : Nat) : val (cd n) = n := by
  unfold cd; split
  · subst n; rfl
  · exact val_decDigits n

theorem head_decDigits {n : Nat} (h : n ≠ 0) : (decDigits n).head? ≠ some 48 := by
  have h1 := strip (decDigits n) (decDigits_all n)
  rw [val_decDigits, cd, if_neg h] at h1
  intro h0
  cases hd : decDigits n with
  | nil => exact decDigits_ne n hd
  | cons c r =>
    rw [hd] at h0 h1
    have : c = 48 := by simpa using h0
    subst this
    rw [List.dropWhile_cons, if_pos (by simp)] at h1
    have := congrArg List.length h1
    have h2 := (List.dropWhile_sublist (l := r) (· == (48 : UInt8))).length_le
    simp at this; omega

theorem can_cd (n : Nat) : can (cd n) := by
  unfold cd; split
  · exact ⟨rfl, by simp⟩
  · exact ⟨decDigits_all n, head_decDigits ‹_›⟩

theorem can_big {l : List UInt8} (h : can l) {n : Nat} (hn : n < l.length) : 10 ^ n ≤ val l := by
  cases l with
  | nil => simp at hn
  | cons c r =>
    have hdc : dg c = true := by have := h.1; simp only [List.all_cons, Bool.and_eq_true] at this; exact this.1
    have := val_pos (r := r) hdc (by simpa using h.2)
    have h2 : 10 ^ n ≤ 10 ^ r.length := Nat.pow_le_pow_right (by decide) (by simp at hn; omega)
    omega

/-- a signed number in its canonical form -/
def sgn (neg : Bool) (l : List UInt8) : Int := if neg then -(val l : Int) else (val l : Int)
theorem sgn_cd (v : Int) : sgn (decide (v < 0)) (cd v.natAbs) = v := by
  unfold sgn; rw [val_cd]; by_cases h : v < 0 <;> simp [h] <;> omega

/-- TrimLeft(TrimPrefix(FormatInt(v), "-"), "0") -/
theorem trim_itoa (v : Int) : trimPrefix (itoa v) [45] = decDigits v.natAbs := by
  unfold itoa trimPrefix hasPrefix
  by_cases h : v < 0
  · rw [if_pos h]; simp [List.isPrefixOf]
  · rw [if_neg h]
    have e : v.toNat = v.natAbs := by omega
    rw [e]
    have ha := decDigits_all v.natAbs
    cases hd : decDigits v.natAbs with
    | nil => exact absurd hd (decDigits_ne _)
    | cons c r =>
      rw [hd] at ha
      simp only [List.all_cons, Bool.and_eq_true] at ha
      have hc := dg_iff.1 ha.1
      have : ((45 : UInt8) == c) = false := by rw [beq_eq_false_iff_ne]; rintro rfl; simp at hc
      simp [List.isPrefixOf, this]

/-! ### what strconv.ParseInt answers at "0" and at most eighteen digits -/
theorem parseUintM_dg (M : Nat) (hM : 1000000000000000000 ≤ M) : ∀ (l : List UInt8) (k acc : Nat), acc < 10 ^ k → k + l.length ≤ 18 → l.all dg = true → parseUintM M acc l = .ok (valFrom acc l)
  | [], _, _, _, _, _ => rfl
  | c :: r, k, acc, hk, hl, ha => by
    simp only [List.all_cons, Bool.and_eq_true] at ha
    have hc := dg_iff.1 ha.1
    simp only [List.length_cons] at hl
    have hp : 10 ^ (k + 1) ≤ 10 ^ 18 := Nat.pow_le_pow_right (by decide) (by omega)
    have hs : acc * 10 + (c.toNat - 48) < 10 ^ (k + 1) := by rw [Nat.pow_succ]; omega
    have h18 : (10 : Nat) ^ 18 = 1000000000000000000 := by decide
    unfold parseUintM
    rw [if_pos hc, if_neg (by omega), if_neg (by omega)]
    exact parseUintM_dg M hM r (k + 1) _ hs (by omega) ha.2

theorem parse_small (l : List UInt8) (hl : l.length ≤ 18) (ha : l.all dg = true) : parseIntB 64 (48 :: l) = .ok (val l : Int) := by
  have hM : 1000000000000000000 ≤ 2 ^ 64 - 1 := by decide
  have h1 : parseUintB 64 (48 :: l) = .ok (val l) := by
    unfold parseUintB
    rw [if_neg (by simp)]
    unfold parseUintM
    rw [if_pos (by decide), if_neg (by decide), if_neg (by decide)]
    exact parseUintM_dg _ hM l 0 0 (by decide) (by omega) ha
  have hv := val_lt l ha
  have hp : 10 ^ l.length ≤ 10 ^ 18 := Nat.pow_le_pow_right (by decide) hl
  have h18 : (10 : Nat) ^ 18 = 1000000000000000000 := by decide
  have h63 : (2 : Nat) ^ (64 - 1) = 9223372036854775808 := by decide
  unfold parseIntB
  simp only [show ¬ ((48 : UInt8).toNat = 43 ∨ (48 : UInt8).toNat = 45) by decide, if_false, h1, h63]
  rw [if_neg (by omega), if_neg (fun h => absurd h.1 (by decide))]
  simp
end Go.Proofs.Qxb6604011aDoor
