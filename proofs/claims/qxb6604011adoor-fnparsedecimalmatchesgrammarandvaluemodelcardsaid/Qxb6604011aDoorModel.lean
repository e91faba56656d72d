/-
  modelAdd: schoolbook signed addition.
-/
import Derived.Test.Qxb6604011aDoorDiff
namespace Go.Proofs.Qxb6604011aDoor
open Go.RowKit

theorem cd_zero : cd 0 = [] := rfl
theorem cd_ne {n : Nat} (h : n ≠ 0) : cd n ≠ [] := by
  unfold cd; rw [if_neg h]; exact decDigits_ne n

theorem val_ne {l : List UInt8} (h : can l) (hl : l ≠ []) : val l ≠ 0 := by
  cases l with
  | nil => exact absurd rfl hl
  | cons c r =>
    have := can_big h (n := r.length) (by simp)
    have h1 : 1 ≤ 10 ^ r.length := Nat.one_le_pow _ _ (by decide)
    omega

theorem ret_bs {a b : Bool} {x y : ByteArray} (h1 : a = b) (h2 : x = y) : Ending.returned (.tuple #[.bool a, .string x]) = .returned (.tuple #[.bool b, .string y]) := by rw [h1, h2]

theorem cd_empty {n : Int} (h : (cd n.natAbs).isEmpty = true) : n = 0 := by
  by_cases h0 : n = 0
  · exact h0
  · have := cd_ne (n := n.natAbs) (by omega)
    rw [List.isEmpty_iff] at h
    exact absurd h this

theorem eta_nil {m : ByteArray} (h : m.data.toList = []) : m = ⟨#[]⟩ := by
  rw [← Go.Joins.bytes_eta m, h]

theorem add_nil (neg : Bool) (n : Int) : addN neg [] n = decide (n < 0) ∧ addM neg [] n = cd n.natAbs := by
  have : sgn neg [] = 0 := by unfold sgn; cases neg <;> rfl
  unfold addN addM
  rw [this, Int.zero_add]; exact ⟨rfl, rfl⟩

theorem add_zero' {neg : Bool} {l : List UInt8} (hc : can l) (hl : l ≠ []) : addN neg l 0 = neg ∧ addM neg l 0 = l := by
  have hv := val_ne hc hl
  have hcv := cd_val hc
  unfold addN addM sgn
  cases neg
  · refine ⟨by simp, ?_⟩
    rw [show ((if false = true then -(val l : Int) else (val l : Int)) + 0).natAbs = val l by simp, hcv]
  · refine ⟨by simp; omega, ?_⟩
    rw [show ((if true = true then -(val l : Int) else (val l : Int)) + 0).natAbs = val l by simp, hcv]

/-- the same sign: magnitudes add -/
theorem add_same {neg : Bool} {l : List UInt8} {n : Int} (h : (neg == decide (n < 0)) = true) : addN neg l n = neg ∧ addM neg l n = cd (val l + n.natAbs) := by
  have h' : neg = decide (n < 0) := by simpa using h
  unfold addN addM sgn
  by_cases hlt : n < 0
  · have e : neg = true := by rw [h']; simp [hlt]
    subst e
    refine ⟨by simp; omega, ?_⟩
    simp only [if_true]; congr 1; omega
  · have e : neg = false := by rw [h']; simp [hlt]
    subst e
    refine ⟨by simp; omega, ?_⟩
    simp only [Bool.false_eq_true, if_false]; congr 1; omega

/-- other signs: magnitudes are taken from one another -/
theorem add_other {neg : Bool} {l : List UInt8} {n : Int} (h : (neg == decide (n < 0)) = false) :
    (val l = n.natAbs → addN neg l n = false ∧ addM neg l n = []) ∧ (n.natAbs < val l → addN neg l n = neg ∧ addM neg l n = cd (val l - n.natAbs)) ∧ (val l < n.natAbs → addN neg l n = decide (n < 0) ∧ addM neg l n = cd (n.natAbs - val l)) := by
  have h' : neg ≠ decide (n < 0) := by simpa using h
  unfold addN addM sgn
  by_cases hlt : n < 0
  · have e : neg = false := by cases neg <;> simp [hlt] at h' ⊢
    subst e
    refine ⟨fun hv => ⟨by simp; omega, ?_⟩, fun hv => ⟨by simp; omega, ?_⟩, fun hv => ⟨by simp; omega, ?_⟩⟩
    · simp only [Bool.false_eq_true, if_false]; rw [show ((val l : Int) + n).natAbs = 0 by omega]; rfl
    · simp only [Bool.false_eq_true, if_false]; congr 1; omega
    · simp only [Bool.false_eq_true, if_false]; congr 1; omega
  · have e : neg = true := by cases neg <;> simp [hlt] at h' ⊢
    subst e
    refine ⟨fun hv => ⟨by simp; omega, ?_⟩, fun hv => ⟨by simp; omega, ?_⟩, fun hv => ⟨by simp; omega, ?_⟩⟩
    · simp only [if_true]; rw [show (-(val l : Int) + n).natAbs = 0 by omega]; rfl
    · simp only [if_true]; congr 1; omega
    · simp only [if_true]; congr 1; omega

theorem bnd_len {n : Int} (hn : Bnd n) : (cd n.natAbs).length ≤ 18 := by
  have h18 : (10 : Nat) ^ 18 = 1000000000000000000 := by decide
  have := hn.lo; have := hn.hi
  exact cd_len (by omega)

set_option maxHeartbeats 400000 in
theorem model_any (neg : Bool) (m : ByteArray) (n : Int) (w : World) (hm : m.size ≤ 1048577) (hc : can m.data.toList) (hn : Bnd n) :
    Calls Tryd.prog 12 #[.bool neg, .string m, .int .i64 n] w fun e w' => e = .returned (.tuple #[.bool (addN neg m.data.toList n), .string ⟨(addM neg m.data.toList n).toArray⟩]) ∧ Below w.heap.size w w' := by
  have cm := fun w => mag_any n w hn
  have HC : Hid (can m.data.toList) := hc
  clear hc
  have hml : m.data.toList.length = m.size := by simp
  by_cases he : m.toList = []
  · have hm0 : m.data.toList = [] := by rw [← ByteArray.toList_eq]; exact he
    have HM : Hid (m.data.toList = []) := hm0
    clear hm0
    go_enter Tryd.func12, Tryd.ntmps12
    go_wp2_with fail
    refine (cm _).mono ?_
    rintro e w1 ⟨rfl, hb⟩
    go_wp2_with fail
    · go_ret2
      have h0 := cd_empty ‹_›
      subst h0
      exact ⟨ret_bs (by rw [HM.out, (add_nil neg 0).1]; rfl) (by rw [HM.out, (add_nil neg 0).2]; exact eta_nil HM.out), hb⟩
    · go_ret2
      exact ⟨ret_bs (by rw [HM.out, (add_nil neg n).1]) (by rw [HM.out, (add_nil neg n).2]), hb⟩
  · have HM : Hid (m.data.toList ≠ []) := by
      show _ ≠ _
      rw [← ByteArray.toList_eq]; exact he
    have hie : m.toList.isEmpty = false := by rw [List.isEmpty_eq_false_iff]; exact he
    clear he
    have hyl := bnd_len hn
    have hys : (⟨(cd n.natAbs).toArray⟩ : ByteArray).size ≤ 2097152 := by show (cd n.natAbs).toArray.size ≤ _; rw [List.size_toArray]; omega
    have ca := fun w => addMag_any m ⟨(cd n.natAbs).toArray⟩ w (by omega) hys HC.out.1 (can_cd _).1
    have cc := fun w => cmp_any m ⟨(cd n.natAbs).toArray⟩ w (by omega) HC.out (can_cd _)
    have cs1 := fun w h1 h2 => subMag_any m ⟨(cd n.natAbs).toArray⟩ w (by omega) h1 HC.out.1 (can_cd _).1 h2
    have cs2 := fun w h1 h2 => subMag_any ⟨(cd n.natAbs).toArray⟩ m w hys h1 (can_cd _).1 HC.out.1 h2
    go_enter Tryd.func12, Tryd.ntmps12
    go_wp2_with fail
    refine (cm _).mono ?_
    rintro e w1 ⟨rfl, hb⟩
    go_wp2_with fail
    · have h0 := cd_empty ‹_›
      subst h0
      go_ret2
      exact ⟨ret_bs (add_zero' HC.out HM.out).1.symm (by rw [(add_zero' HC.out HM.out).2, Go.Joins.bytes_eta]), hb⟩
    · have hh := add_same (l := m.data.toList) ‹(neg == decide (n < 0)) = true›
      refine (ca _).mono ?_
      rintro e w2 ⟨rfl, hb2⟩
      have H1 : Hid (addN neg m.data.toList n = neg) := hh.1
      have H2 : Hid (addM neg m.data.toList n = cd (val m.data.toList + n.natAbs)) := hh.2
      clear hh
      go_wp2
      go_ret2
      exact ⟨ret_bs H1.out.symm (by rw [H2.out, val_cd]), hb.trans (hb2.mono hb.size)⟩
    · have hh := add_other (l := m.data.toList) ‹(neg == decide (n < 0)) = false›
      refine (cc _).mono ?_
      rintro e w2 ⟨rfl, hb2⟩
      have hb3 := hb.trans (hb2.mono hb.size)
      rcases Nat.lt_trichotomy (val m.data.toList) n.natAbs with h | h | h
      · have hcv : cmpV m.data.toList (cd n.natAbs) = -1 := by unfold cmpV; rw [val_cd, if_pos h]
        rw [hcv]
        have H1 : Hid (addN neg m.data.toList n = decide (n < 0)) := (hh.2.2 h).1
        have H2 : Hid (addM neg m.data.toList n = cd (n.natAbs - val m.data.toList)) := (hh.2.2 h).2
        have c22 := cs2 w2 (by
          show m.size ≤ (cd n.natAbs).toArray.size
          rw [List.size_toArray, ← hml]
          refine Nat.le_of_not_lt fun hlt => ?_
          have := len_lt_val (can_cd n.natAbs) HC.out hlt
          rw [val_cd] at this; omega) (by show val m.data.toList ≤ val (cd n.natAbs); rw [val_cd]; omega)
        clear hh hcv h
        go_wp2_with fail
        refine c22.mono ?_
        rintro e w3 ⟨rfl, hb4⟩
        go_wp2
        go_ret2
        exact ⟨ret_bs H1.out.symm (by rw [H2.out, val_cd]), hb3.trans (hb4.mono hb3.size)⟩
      · have hcv : cmpV m.data.toList (cd n.natAbs) = 0 := by unfold cmpV; rw [val_cd, if_neg (by omega), if_neg (by omega)]
        rw [hcv]
        have H1 : Hid (addN neg m.data.toList n = false) := (hh.1 h).1
        have H2 : Hid (addM neg m.data.toList n = []) := (hh.1 h).2
        clear hh hcv h
        go_wp2_with fail
        go_ret2
        exact ⟨ret_bs H1.out.symm (by rw [H2.out]), hb3⟩
      · have hcv : cmpV m.data.toList (cd n.natAbs) = 1 := by unfold cmpV; rw [val_cd, if_neg (by omega), if_pos h]
        rw [hcv]
        have H1 : Hid (addN neg m.data.toList n = neg) := (hh.2.1 h).1
        have H2 : Hid (addM neg m.data.toList n = cd (val m.data.toList - n.natAbs)) := (hh.2.1 h).2
        have c22 := cs1 w2 (by
          show (cd n.natAbs).toArray.size ≤ m.size
          rw [List.size_toArray, ← hml]
          refine Nat.le_of_not_lt fun hlt => ?_
          have := len_lt_val HC.out (can_cd n.natAbs) hlt
          rw [val_cd] at this; omega) (by show val (cd n.natAbs) ≤ _; rw [val_cd]; omega)
        clear hh hcv h
        go_wp2_with fail
        refine c22.mono ?_
        rintro e w3 ⟨rfl, hb4⟩
        go_wp2
        go_ret2
        exact ⟨ret_bs H1.out.symm (by rw [H2.out, val_cd]), hb3.trans (hb4.mono hb3.size)⟩
end Go.Proofs.Qxb6604011aDoor
