/-
  The plain side of 'list members match the one-pass model': lists of bytes, no Go.
-/
import Derived.Lib.SlTrimSet
namespace Go.Proofs.Qxb6604186aDoor
open Go

/-- what cutListMember cuts: the text before the first comma outside quotes, and what is behind it -/
def cutM (q : Bool) : List UInt8 → List UInt8 × List UInt8
  | [] => ([], [])
  | [c] => if q && c == 92 then ([c], []) else if c == 34 then ([c], []) else if c == 44 && !q then ([], []) else ([c], [])
  | c :: d :: r =>
    if q && c == 92 then (c :: d :: (cutM q r).1, (cutM q r).2)
    else if c == 34 then (c :: (cutM (!q) (d :: r)).1, (cutM (!q) (d :: r)).2)
    else if c == 44 && !q then ([], d :: r)
    else (c :: (cutM q (d :: r)).1, (cutM q (d :: r)).2)

theorem cutM_esc {q : Bool} {c d : UInt8} {r : List UInt8} (h : (q && c == 92) = true) : cutM q (c :: d :: r) = (c :: d :: (cutM q r).1, (cutM q r).2) := by
  rw [cutM, if_pos h]
theorem cutM_esc1 {q : Bool} {c : UInt8} (h : (q && c == 92) = true) : cutM q [c] = ([c], []) := by
  rw [cutM, if_pos h]
theorem cutM_quote {q : Bool} {c : UInt8} {r : List UInt8} (h : (q && c == 92) = false) (h2 : (c == 34) = true) : cutM q (c :: r) = (c :: (cutM (!q) r).1, (cutM (!q) r).2) := by
  cases r with
  | nil => simp only [cutM]; rw [if_neg (by simp [h]), if_pos h2]
  | cons d r => rw [cutM, if_neg (by simp [h]), if_pos h2]
theorem cutM_comma {q : Bool} {c : UInt8} {r : List UInt8} (h : (q && c == 92) = false) (h2 : (c == 34) = false) (h3 : (c == 44 && !q) = true) : cutM q (c :: r) = ([], r) := by
  cases r with
  | nil => rw [cutM, if_neg (by simp [h]), if_neg (by simp [h2]), if_pos h3]
  | cons d r => rw [cutM, if_neg (by simp [h]), if_neg (by simp [h2]), if_pos h3]
theorem cutM_plain {q : Bool} {c : UInt8} {r : List UInt8} (h : (q && c == 92) = false) (h2 : (c == 34) = false) (h3 : (c == 44 && !q) = false) : cutM q (c :: r) = (c :: (cutM q r).1, (cutM q r).2) := by
  cases r with
  | nil => simp only [cutM]; rw [if_neg (by simp [h]), if_neg (by simp [h2]), if_neg (by simp [h3])]
  | cons d r => rw [cutM, if_neg (by simp [h]), if_neg (by simp [h2]), if_neg (by simp [h3])]

theorem cutM_len : ∀ (n : Nat) (l : List UInt8) (q : Bool), l.length ≤ n → (cutM q l).1.length ≤ l.length ∧ (cutM q l).2.length ≤ l.length ∧ (l ≠ [] → (cutM q l).2.length < l.length)
  | 0, l, q, h => by
    have : l = [] := List.eq_nil_of_length_eq_zero (by omega)
    subst this; simp [cutM]
  | n + 1, [], q, h => by simp [cutM]
  | n + 1, c :: r, q, h => by
    have hr : r.length ≤ n := by simpa using h
    by_cases h1 : (q && c == 92) = true
    · cases r with
      | nil => rw [cutM_esc1 h1]; simp
      | cons d r =>
        have ih := cutM_len n r q (by simp at hr; omega)
        rw [cutM_esc h1]
        simp only [List.length_cons]
        exact ⟨by omega, by omega, fun _ => by omega⟩
    · have h1' : (q && c == 92) = false := by simpa using h1
      by_cases h2 : (c == 34) = true
      · have ih := cutM_len n r (!q) hr
        rw [cutM_quote h1' h2]
        simp only [List.length_cons]
        exact ⟨by omega, by omega, fun _ => by omega⟩
      · have h2' : (c == 34) = false := by simpa using h2
        by_cases h3 : (c == 44 && !q) = true
        · rw [cutM_comma h1' h2' h3]
          simp only [List.length_cons, List.length_nil]
          exact ⟨by omega, by omega, fun _ => by omega⟩
        · have ih := cutM_len n r q hr
          rw [cutM_plain h1' h2' (by simpa using h3)]
          simp only [List.length_cons]
          exact ⟨by omega, by omega, fun _ => by omega⟩

theorem cutM_room (l : List UInt8) (q : Bool) : (cutM q l).1.length + (cutM q l).2.length ≤ l.length := by
  have : ∀ (n : Nat) (l : List UInt8) (q : Bool), l.length ≤ n → (cutM q l).1.length + (cutM q l).2.length ≤ l.length := by
    intro n
    induction n using Nat.strongRecOn with
    | _ n ih =>
      intro l q h
      cases l with
      | nil => simp [cutM]
      | cons c r =>
        simp only [List.length_cons] at h
        by_cases h1 : (q && c == 92) = true
        · cases r with
          | nil => rw [cutM_esc1 h1]; simp
          | cons d r =>
            simp only [List.length_cons] at h
            have := ih (n - 2) (by omega) r q (by omega)
            rw [cutM_esc h1]
            simp only [List.length_cons]; omega
        · have h1' : (q && c == 92) = false := by simpa using h1
          by_cases h2 : (c == 34) = true
          · have := ih (n - 1) (by omega) r (!q) (by omega)
            rw [cutM_quote h1' h2]
            simp only [List.length_cons]; omega
          · have h2' : (c == 34) = false := by simpa using h2
            by_cases h3 : (c == 44 && !q) = true
            · rw [cutM_comma h1' h2' h3]; simp
            · have := ih (n - 1) (by omega) r q (by omega)
              rw [cutM_plain h1' h2' (by simpa using h3)]
              simp only [List.length_cons]; omega
  exact this l.length l q (Nat.le_refl _)

/-- trimmed of spaces and tabs -/
def trim (l : List UInt8) : List UInt8 := Lib.trimS l [32, 9]
/-- a member is kept if it is not empty -/
def keep (m : List UInt8) : List (List UInt8) := if m.isEmpty then [] else [m]

/-- the members of a line -/
def lmF : Nat → List UInt8 → List (List UInt8)
  | 0, _ => []
  | f + 1, l => if l.isEmpty then [] else keep (trim (cutM false l).1) ++ lmF f (cutM false l).2
def lm (l : List UInt8) : List (List UInt8) := lmF l.length l

theorem lmF_fuel : ∀ (f g : Nat) (l : List UInt8), l.length ≤ f → l.length ≤ g → lmF f l = lmF g l
  | 0, g, l, h, _ => by
    have : l = [] := List.eq_nil_of_length_eq_zero (by omega)
    subst this
    cases g <;> simp [lmF]
  | f + 1, 0, l, _, h => by
    have : l = [] := List.eq_nil_of_length_eq_zero (by omega)
    subst this
    simp [lmF]
  | f + 1, g + 1, l, h1, h2 => by
    cases l with
    | nil => simp [lmF]
    | cons c r =>
      have := (cutM_len _ (c :: r) false (Nat.le_refl _)).2.2 (by simp)
      simp only [lmF, List.isEmpty_cons, Bool.false_eq_true, if_false]
      rw [lmF_fuel f g _ (by omega) (by omega)]

theorem lm_nil : lm [] = [] := rfl
theorem lm_cons {l : List UInt8} (h : l ≠ []) : lm l = keep (trim (cutM false l).1) ++ lm (cutM false l).2 := by
  cases l with
  | nil => exact absurd rfl h
  | cons c r =>
    have := (cutM_len _ (c :: r) false (Nat.le_refl _)).2.2 (by simp)
    unfold lm
    rw [List.length_cons, lmF]
    simp only [List.isEmpty_cons, Bool.false_eq_true, if_false]
    rw [lmF_fuel r.length (cutM false (c :: r)).2.length _ (by simp at this; omega) (Nat.le_refl _)]

theorem dropWhile_len {p : UInt8 → Bool} (l : List UInt8) : (l.dropWhile p).length ≤ l.length := (List.dropWhile_sublist p).length_le
theorem trim_len (l : List UInt8) : (trim l).length ≤ l.length := by
  unfold trim Lib.trimS Lib.trimLeftS Lib.trimRightS
  refine Nat.le_trans (dropWhile_len _) ?_
  rw [List.length_reverse]
  refine Nat.le_trans (dropWhile_len _) ?_
  rw [List.length_reverse]; exact Nat.le_refl _
theorem keep_len (m : List UInt8) : (keep m).length ≤ m.length := by
  unfold keep
  cases m <;> simp

theorem lm_len (l : List UInt8) : (lm l).length ≤ l.length := by
  have : ∀ (n : Nat) (l : List UInt8), l.length ≤ n → (lm l).length ≤ l.length := by
    intro n
    induction n with
    | zero => intro l h; have : l = [] := List.eq_nil_of_length_eq_zero (by omega); subst this; simp [lm_nil]
    | succ n ih =>
      intro l h
      by_cases hl : l = []
      · subst hl; simp [lm_nil]
      · rw [lm_cons hl, List.length_append]
        have h1 := cutM_room l false
        have h2 := (cutM_len _ l false (Nat.le_refl _)).2.2 hl
        have h3 := ih (cutM false l).2 (by omega)
        have h4 := keep_len (trim (cutM false l).1)
        have h5 := trim_len (cutM false l).1
        omega
  exact this l.length l (Nat.le_refl _)

/-! ### the quoted string of the model -/
/-- inside quotes: what is read up to and with the closing quote, and the rest -/
def inq : List UInt8 → List UInt8 × List UInt8
  | [] => ([], [])
  | [c] => ([c], [])
  | c :: d :: r =>
    if c == 34 then ([c], d :: r)
    else if c == 92 then (c :: d :: (inq r).1, (inq r).2)
    else (c :: (inq (d :: r)).1, (inq (d :: r)).2)

theorem inq_close {c : UInt8} {r : List UInt8} (h : (c == 34) = true) : inq (c :: r) = ([c], r) := by
  cases r with
  | nil => rfl
  | cons d r => rw [inq, if_pos h]
theorem inq_esc {c d : UInt8} {r : List UInt8} (h : (c == 34) = false) (h2 : (c == 92) = true) : inq (c :: d :: r) = (c :: d :: (inq r).1, (inq r).2) := by
  rw [inq, if_neg (by simp [h]), if_pos h2]
theorem inq_plain {c : UInt8} {r : List UInt8} (h : (c == 34) = false) (h2 : (c == 92) = false) : inq (c :: r) = (c :: (inq r).1, (inq r).2) := by
  cases r with
  | nil => simp [inq]
  | cons d r => rw [inq, if_neg (by simp [h]), if_neg (by simp [h2])]
theorem inq_one (c : UInt8) : inq [c] = ([c], []) := rfl

/-- inside quotes cutListMember reads on to the closing quote -/
theorem cutM_true (l : List UInt8) : cutM true l = ((inq l).1 ++ (cutM false (inq l).2).1, (cutM false (inq l).2).2) := by
  have : ∀ (n : Nat) (l : List UInt8), l.length ≤ n → cutM true l = ((inq l).1 ++ (cutM false (inq l).2).1, (cutM false (inq l).2).2) := by
    intro n
    induction n using Nat.strongRecOn with
    | _ n ih =>
      intro l h
      cases l with
      | nil => simp [cutM, inq]
      | cons c r =>
        simp only [List.length_cons] at h
        by_cases h1 : (c == 92) = true
        · have hc : (c == 34) = false := by
            rw [beq_iff_eq] at h1; subst h1; decide
          have h1' : (true && c == 92) = true := by simpa using h1
          cases r with
          | nil => rw [cutM_esc1 h1', inq_one]; simp [cutM]
          | cons d r =>
            simp only [List.length_cons] at h
            rw [cutM_esc h1', inq_esc hc h1, ih (n - 2) (by omega) r (by omega)]
            simp
        · have h1' : (true && c == 92) = false := by simpa using h1
          have h1b : (c == 92) = false := by simpa using h1
          by_cases h2 : (c == 34) = true
          · rw [cutM_quote h1' h2, inq_close h2]; simp
          · have h2' : (c == 34) = false := by simpa using h2
            rw [cutM_plain h1' h2' (by simp), inq_plain h2' h1b, ih (n - 1) (by omega) r (by omega)]
            simp
  exact this l.length l (Nat.le_refl _)

/-- what the model still has to give, 'cur' being the member in hand -/
def pend (cur l : List UInt8) : List (List UInt8) := keep (trim (cur ++ (cutM false l).1)) ++ lm (cutM false l).2

theorem keep_trim_nil : keep (trim []) = [] := rfl
theorem pend_nil (cur : List UInt8) : pend cur [] = keep (trim cur) := by unfold pend; simp [cutM, lm_nil]
theorem lm_pend (l : List UInt8) : lm l = pend [] l := by
  by_cases h : l = []
  · subst h; rw [pend_nil]; rfl
  · rw [lm_cons h]; unfold pend; simp
theorem pend_comma {c : UInt8} (cur r : List UInt8) (h : (c == 44) = true) : pend cur (c :: r) = keep (trim cur) ++ pend [] r := by
  have h2 : (c == 34) = false := by rw [beq_iff_eq] at h; subst h; decide
  rw [← lm_pend]; unfold pend; rw [cutM_comma (by simp) h2 (by simpa using h)]; simp
theorem pend_quote {c : UInt8} (cur r : List UInt8) (h : (c == 34) = true) : pend cur (c :: r) = pend (cur ++ c :: (inq r).1) (inq r).2 := by
  unfold pend
  rw [cutM_quote (by simp) h]
  simp only [Bool.not_false]
  rw [cutM_true r]; simp
theorem pend_plain {c : UInt8} (cur r : List UInt8) (h : (c == 44) = false) (h2 : (c == 34) = false) : pend cur (c :: r) = pend (cur ++ [c]) r := by
  unfold pend; rw [cutM_plain (by simp) h2 (by simp [h])]; simp
end Go.Proofs.Qxb6604186aDoor
