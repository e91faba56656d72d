/-
  (integer).add, whole; ZZintegerAdd; decCanonicalMag.
-/
import Derived.Test.Qxb6604011aDoorAddC
import Derived.Deep.QuietTactic
import Derived.BigQuiet
namespace Go.Proofs.Qxb6604011aDoor
open Go.RowKit

theorem big_inv {m : ByteArray} {c : Int} (ha : can m.data.toList) (hc : Bnd c) : Inv ((val m.data.toList : Int) + c) m.size c m.size m.data.toList := by
  refine ⟨Nat.le_refl _, by simp, ha.1, by simp, ?_, ?_⟩
  · have := hc.lo; omega
  · have := hc.hi; omega

theorem big_pos {m : ByteArray} {c : Int} (hm : 18 < m.size) (ha : can m.data.toList) (hc : Bnd c) : 0 < (val m.data.toList : Int) + c := by
  have h1 := can_big ha (n := 18) (by simpa using hm)
  have h18 : (10 : Nat) ^ 18 = 1000000000000000000 := by decide
  have := hc.lo
  omega

theorem add_any (neg : Bool) (m : ByteArray) (n : Int) (w : World) (hp : Pow w) (hmx : m.size ≤ 1048577) (ha : can m.data.toList) (hn : Bnd n) :
    Calls Tryd.prog 18 #[.agg #[.bool neg, .string m], .int .i64 n] w fun e w' => e = .returned (.agg #[.bool (addN neg m.data.toList n), .string ⟨(addM neg m.data.toList n).toArray⟩]) ∧ Below w.heap.size w w' := by
  by_cases hm : m.size ≤ 18
  · exact add_small neg m n w hp hm ha.1 hn
  · cases neg
    · have hT := big_pos (by omega) ha hn
      have e1 : addN false m.data.toList n = false := by unfold addN sgn; simp; omega
      have e2 : addM false m.data.toList n = cd ((val m.data.toList : Int) + n).toNat := by
        unfold addM sgn; simp only [Bool.false_eq_true, if_false]; congr 1; omega
      rw [e1, e2]
      exact add_big_pos m n w hp (by omega) hmx _ hT (big_inv ha hn)
    · have hn' : Bnd (-n) := ⟨by have := hn.hi; omega, by have := hn.lo; omega⟩
      have hT := big_pos (by omega) ha hn'
      have ew : wrap64 (-n) = -n := wrap64_small (by have := hn.hi; omega) (by have := hn.lo; omega)
      have e1 : addN true m.data.toList n = true := by unfold addN sgn; simp; omega
      have e2 : addM true m.data.toList n = cd ((val m.data.toList : Int) + -n).toNat := by
        unfold addM sgn; simp only [if_true]; congr 1; omega
      rw [e1, e2]
      exact add_big_neg m n w hp (by omega) hmx _ hT (by rw [ew]; exact big_inv ha hn')

theorem cd_len {n k : Nat} (h : n < 10 ^ k) : (cd n).length ≤ k := by
  refine Nat.le_of_not_lt fun hk => ?_
  have := can_big (can_cd n) hk
  rw [val_cd] at this
  omega

theorem addM_len {neg : Bool} {l : List UInt8} {n : Int} {k : Nat} (ha : can l) (hn : Bnd n) (hl : l.length ≤ k) (hk : 18 ≤ k) : (addM neg l n).length ≤ k + 1 := by
  have hv := val_lt l ha.1
  have h1 : 10 ^ l.length ≤ 10 ^ k := Nat.pow_le_pow_right (by decide) hl
  have h2 : (10 : Nat) ^ 18 ≤ 10 ^ k := Nat.pow_le_pow_right (by decide) hk
  have h18 : (10 : Nat) ^ 18 = 1000000000000000000 := by decide
  have h3 : (10 : Nat) ^ (k + 1) = 10 ^ k * 10 := Nat.pow_succ ..
  unfold addM
  apply cd_len
  rw [h3]
  generalize (10 : Nat) ^ k = P at *
  generalize (10 : Nat) ^ l.length = P2 at *
  have := hn.lo
  have := hn.hi
  unfold sgn
  split <;> omega

theorem addM_can (neg : Bool) (l : List UInt8) (n : Int) : can (addM neg l n) := can_cd _
theorem sgn_add (neg : Bool) (l : List UInt8) (n : Int) : sgn (addN neg l n) (addM neg l n) = sgn neg l + n := sgn_cd _

set_option maxHeartbeats 400000 in
theorem zzadd_any (neg : Bool) (m : ByteArray) (n : Int) (w : World) (hp : Pow w) (hmx : m.size ≤ 1048577) (ha : can m.data.toList) (hn : Bnd n) :
    Calls Tryd.prog 11 #[.bool neg, .string m, .int .i64 n] w fun e w' => e = .returned (.tuple #[.bool (addN neg m.data.toList n), .string ⟨(addM neg m.data.toList n).toArray⟩]) ∧ Below w.heap.size w w' := by
  have c := add_any neg m n w hp hmx ha hn
  generalize addN neg m.data.toList n = b at c ⊢
  generalize addM neg m.data.toList n = l at c ⊢
  clear ha hn
  go_enter Tryd.func11, Tryd.ntmps11
  go_wp2_with fail
  refine c.mono ?_
  rintro e w1 ⟨rfl, hb⟩
  go_wp2
  go_quiet (fail)
  go_wp2
  go_ret2
  exact ⟨rfl, below_drewN (hb.alloc hb.size _) _⟩

theorem ret_bool {a b : Bool} (h : a = b) : Ending.returned (.bool a) = .returned (.bool b) := by rw [h]

set_option maxHeartbeats 400000 in
theorem isDigit_any (c : UInt8) (w : World) :
    Calls Tryd.prog 17 #[.int .u8 c.toNat] w fun e w' => e = .returned (.bool (dg c)) ∧ w' = w := by
  unfold dg
  by_cases h1 : 48 ≤ c.toNat
  · go_enter Tryd.func17, Tryd.ntmps17
    go_wp2
    go_ret
    exact ⟨ret_bool (by simp [h1]; omega), rfl⟩
  · go_enter Tryd.func17, Tryd.ntmps17
    go_wp2
    go_ret
    exact ⟨ret_bool (by simp), rfl⟩

/-- what decCanonicalMag answers -/
def canB (l : List UInt8) : Bool := l.all dg && (l.isEmpty || l.head? != some 48)
theorem canB_iff {l : List UInt8} : canB l = true ↔ can l := by
  unfold canB can
  cases l <;> simp

theorem take_snoc (s : ByteArray) (k : Nat) (h : k < s.size) : s.data.toList.take (k + 1) = s.data.toList.take k ++ [s[k]] := by
  rw [List.take_succ_eq_append_getElem (by simpa using h)]; rfl

theorem all_not {s : ByteArray} {k : Nat} (h : k < s.size) (hd : dg s[k] = false) : s.data.toList.all dg = false := by
  rw [← Bool.not_eq_true, List.all_eq_true]
  intro hall
  have := hall s[k] (by rw [show s[k] = s.data.toList[k] from rfl]; exact List.getElem_mem _)
  rw [hd] at this; cases this

theorem canB_fin {s : ByteArray} (h0 : 0 < s.size) (ha : s.data.toList.all dg = true) : (((s[0].toNat : Int)) != 48) = canB s.data.toList := by
  unfold canB
  rw [ha]
  obtain ⟨⟨l⟩⟩ := s
  match l, h0 with
  | c :: r, _ =>
    show ((c.toNat : Int) != 48) = (true && ((c :: r).isEmpty || (c :: r).head? != some 48))
    rw [Bool.eq_iff_iff]
    simp only [bne_iff_ne, List.isEmpty_cons, Bool.false_or, List.head?_cons, Bool.true_and, ne_eq, Option.some.injEq]
    constructor
    · intro h e; subst e; exact h rfl
    · intro h e; exact h (UInt8.toNat_inj.1 (by have : c.toNat = 48 := by omega
                                                rw [this]; rfl))

set_option maxHeartbeats 400000 in
theorem canonical_any (s : ByteArray) (w : World) (hs : s.size ≤ 1048577) :
    Calls Tryd.prog 10 #[.string s] w fun e w' => e = .returned (.bool (canB s.data.toList)) ∧ w' = w := by
  go_enter Tryd.func10, Tryd.ntmps10
  go_wp2
  go_loop [3] (fun i => ∃ k : Nat, k ≤ s.size ∧ i = .int .i64 k ∧ Hid ((s.data.toList.take k).all dg = true)) (fun i => s.size - (RowKit.intOf i).toNat)
  case atStart => exact ⟨0, Nat.zero_le _, rfl, rfl⟩
  case round =>
    obtain ⟨k, hk, rfl, H⟩ := hrel
    by_cases hlt : k < s.size
    · cases hd : dg s[k]
      · go_wp2_with (go_at_call 17; refine (isDigit_any _ _).mono ?_; rintro e w' ⟨rfl, rfl⟩)
        go_ret
        exact ⟨ret_bool (by unfold canB; rw [all_not hlt hd]; rfl), rfl⟩
      · go_wp2_with (go_at_call 17; refine (isDigit_any _ _).mono ?_; rintro e w' ⟨rfl, rfl⟩)
        go_round
        case rel => exact ⟨k + 1, by omega, by go_num, by show _ = _; rw [take_snoc s k hlt, List.all_append, H.out]; simp [hd]⟩
        case measure => simp [RowKit.intOf]; omega
    · have HA : Hid (s.data.toList.all dg = true) := by
        show _ = _
        have := H.out
        rwa [List.take_of_length_le (by simp; omega)] at this
      by_cases h0 : 0 < s.size
      · have hz : ((s.size : Int) == 0) = false := by rw [beq_eq_false_iff_ne]; omega
        go_wp2
        go_ret
        exact ⟨ret_bool (canB_fin h0 HA.out), rfl⟩
      · have hz : ((s.size : Int) == 0) = true := by rw [beq_iff_eq]; omega
        have he : s.data.toList = [] := List.eq_nil_of_length_eq_zero (by rw [Array.length_toList]; show s.size = 0; omega)
        have HE : Hid (s.data.toList = []) := he
        clear he
        go_wp2
        go_ret
        exact ⟨ret_bool (by rw [HE.out]; rfl), rfl⟩
end Go.Proofs.Qxb6604011aDoor
