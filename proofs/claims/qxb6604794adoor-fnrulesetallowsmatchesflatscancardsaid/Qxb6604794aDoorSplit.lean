/- The parts of a prefix, and what the walk of the prefix says: no Go in sight. -/
import Derived.Test.Qxb6604794aDoorReach3
import Derived.Lib.Split
import Derived.Lib.SplitLaws
namespace Go.Proofs.Qxb6604794aDoor
open Go.Lib

theorem cov_true {cl r : List UInt8} : ∀ {L : List (List UInt8)}, L ≠ [] → cov cl true L r = (cl.isPrefixOf r && cov cl false L (r.drop cl.length))
  | [], h => absurd rfl h
  | p :: ps, _ => by rw [cov, cov]

theorem pre_cons (c : UInt8) (t : List UInt8) (k : List UInt8) : (c :: t).isPrefixOf k = (k.head? == some c && t.isPrefixOf (k.drop 1)) := by
  cases k with
  | nil => rfl
  | cons d k' =>
    show (c == d && t.isPrefixOf k') = (some d == some c && t.isPrefixOf k')
    congr 1
    rw [Bool.eq_iff_iff]; simp; exact ⟨Eq.symm, Eq.symm⟩

/-- no word ahead of i: those bytes are matched one by one -/
theorem rr_skip (cl : List UInt8) : ∀ (i : Nat) (s k : List UInt8), i ≤ s.length → (∀ j, j < i → isW (s.drop j) = false) → rr cl s k = ((s.take i).isPrefixOf k && rr cl (s.drop i) (k.drop i))
  | 0, s, k, _, _ => by simp
  | i + 1, [], _, h, _ => absurd h (by simp)
  | i + 1, c :: t, k, h, hw => by
    have h0 : isW (c :: t) = false := hw 0 (by omega)
    have ih := rr_skip cl i t (k.drop 1) (by simpa using h) (fun j hj => hw (j + 1) (by omega))
    rw [rr_plain h0, ih, List.take_succ_cons, pre_cons, List.drop_succ_cons, List.drop_drop, Bool.and_assoc, Nat.add_comm 1 i]

theorem occ_isW (s : List UInt8) (j : Nat) : occAt s word j = isW (s.drop j) := rfl

theorem rr_none (cl : List UInt8) (s k : List UInt8) (h : index s word = -1) : rr cl s k = s.isPrefixOf k := by
  have hno : ∀ j, j < s.length → isW (s.drop j) = false := fun j hj => by
    rcases index_spec s word with ⟨_, h2⟩ | ⟨i, h2, _⟩
    · rw [← occ_isW]; exact h2 j (by omega)
    · omega
  rw [rr_skip cl s.length s k (Nat.le_refl _) hno, List.take_length, List.drop_length, rr_nil, Bool.and_true]

theorem splitK_ne (k : Nat) (s : List UInt8) : splitK word 0 k s ≠ [] := by
  cases k with
  | zero => simp [splitK]
  | succ k => unfold splitK; split <;> simp

/-- a prefix's parts cover a key as the walk of the prefix says -/
theorem cov_split (cl : List UInt8) (hcl : cl.isEmpty = false) : ∀ (k : Nat) (s K : List UInt8), count s word = k → cov cl false (splitK word 0 k s) K = rr cl s K
  | 0, s, K, h => by
    have hi : index s word = -1 := by
      rcases index_spec s word with ⟨h1, _⟩ | ⟨i, h1, _⟩
      · exact h1
      · rw [count_hit (by decide) h1] at h; omega
    rw [rr_none cl s K hi, splitK, cov, cov, Bool.and_true]
  | k + 1, s, K, h => by
    rcases index_spec s word with ⟨h1, _⟩ | ⟨i, h1, h2, h3, h4⟩
    · rw [count_miss h1] at h; cases h
    · have hc := count_hit (sub := word) (by decide) h1
      have hl : word.length = 8 := rfl
      rw [hl] at hc
      have ih := cov_split cl hcl k (s.drop (i + 8)) ((K.drop i).drop cl.length) (by omega)
      have hne : ¬ (index s word == -1) = true := fun e => by have := beq_iff_eq.1 e; omega
      have hn : (index s word).toNat = i := by omega
      have hlen : (s.take i).length = i := by rw [List.length_take]; omega
      rw [splitK, if_neg hne, hn, hl, Nat.add_zero, cov, hlen, cov_true (splitK_ne _ _), ih, rr_skip cl i s K h2 (fun j hj => h4 j hj), rr_word (p := s.drop i) h3, hcl, List.drop_drop, List.drop_drop]
      rfl
end Go.Proofs.Qxb6604794aDoor
