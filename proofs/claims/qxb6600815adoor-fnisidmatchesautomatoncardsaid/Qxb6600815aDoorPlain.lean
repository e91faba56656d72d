/-
  The plain side of 'isID matches the automaton': lists of bytes, no Go.
-/
import Derived.Lib.IndexMore
import Derived.Lib.Strings
import Derived.Lib.SlTrimSet
namespace Go.Proofs.Qxb6600815aDoor
open Go

/-- an ASCII digit -/
def dig (c : UInt8) : Bool := decide (48 ≤ c.toNat) && decide (c.toNat ≤ 57)

/-- the automaton's step at a digit -/
def stepD (st : Nat) : Nat := if st = 0 then 1 else if st = 2 then 3 else st

/-- the automaton from a state on -/
def auto (st : Nat) : List UInt8 → Bool
  | [] => st == 3
  | c :: r => if dig c then auto (stepD st) r else if c.toNat = 45 ∧ st = 1 then auto 2 r else false

/-- the whole automaton -/
def idAuto (l : List UInt8) : Bool := Lib.hasPrefix l [67, 86, 69, 45] && auto 0 (l.drop 4)

/-- one decimal digit or more -/
def isNum (l : List UInt8) : Bool := !l.isEmpty && l.all dig

def isIdL (l : List UInt8) : Bool :=
  Lib.hasPrefix l [67, 86, 69, 45] && (isNum (Lib.cut (Lib.trimPrefix l [67, 86, 69, 45]) [45]).1 && isNum (Lib.cut (Lib.trimPrefix l [67, 86, 69, 45]) [45]).2.1)

/-- 'cut' at one byte, read off the list. -/
def cut1 : List UInt8 → List UInt8 × List UInt8
  | [] => ([], [])
  | c :: r => if c.toNat = 45 then ([], r) else (c :: (cut1 r).1, (cut1 r).2)

theorem cut_eq (l : List UInt8) : (Lib.cut l [45]).1 = (cut1 l).1 ∧ (Lib.cut l [45]).2.1 = (cut1 l).2 := by
  induction l with
  | nil => simp [Lib.cut, Lib.index, cut1]
  | cons c r ih =>
    by_cases hc : c.toNat = 45
    · have hc' : c = 45 := UInt8.toNat_inj.1 hc
      subst hc'
      simp [Lib.cut, Lib.index, cut1, List.isPrefixOf]
    · have hc' : ((45 : UInt8) == c) = false := by
        rw [beq_eq_false_iff_ne]; rintro rfl; exact hc rfl
      have hge := Lib.index_ge r [45]
      unfold Lib.cut at ih ⊢
      unfold cut1
      rw [if_neg hc]
      have hi : Lib.index (c :: r) [45] = if Lib.index r [45] == -1 then -1 else Lib.index r [45] + 1 := by
        rw [Lib.index]; simp [List.isPrefixOf, hc']
      rw [hi]
      by_cases hn : Lib.index r [45] = -1
      · simp [hn] at ih ⊢
        exact ⟨ih.1, ih.2⟩
      · have hp : 0 ≤ Lib.index r [45] := by omega
        have hb : (Lib.index r [45] == -1) = false := by simpa using hn
        rw [if_pos hp] at ih
        have hp1 : 0 ≤ Lib.index r [45] + 1 := by omega
        simp only [hb, Bool.false_eq_true, if_false]
        rw [if_pos hp1]
        have e : (Lib.index r [45] + 1).toNat = (Lib.index r [45]).toNat + 1 := by omega
        simp only [e, List.take_succ_cons, ih.1.symm, ih.2.symm]
        refine ⟨trivial, ?_⟩
        simp [List.drop_succ_cons]

theorem auto3 (l : List UInt8) : auto 3 l = l.all dig := by
  induction l with
  | nil => rfl
  | cons c r ih => simp only [auto, List.all_cons]; by_cases h : dig c = true <;> simp [h, stepD, ih]

theorem auto2 (l : List UInt8) : auto 2 l = isNum l := by
  cases l with
  | nil => rfl
  | cons c r => simp only [auto, isNum]; by_cases h : dig c = true <;> simp [h, stepD, auto3]

theorem auto1 (l : List UInt8) : auto 1 l = ((cut1 l).1.all dig && isNum (cut1 l).2) := by
  induction l with
  | nil => rfl
  | cons c r ih =>
    simp only [auto, cut1]
    by_cases h : dig c = true
    · have hc : ¬ c.toNat = 45 := by intro e; simp [dig, e] at h
      simp [h, hc, stepD, ih]
    · by_cases hc : c.toNat = 45 <;> simp [h, hc, auto2]

theorem auto0 (l : List UInt8) : auto 0 l = (isNum (cut1 l).1 && isNum (cut1 l).2) := by
  cases l with
  | nil => rfl
  | cons c r =>
    simp only [auto, cut1]
    by_cases h : dig c = true
    · have hc : ¬ c.toNat = 45 := by intro e; simp [dig, e] at h
      simp [h, hc, stepD, auto1, isNum]
    · by_cases hc : c.toNat = 45 <;> simp [h, hc, isNum]

theorem law (l : List UInt8) : isIdL l = idAuto l := by
  unfold isIdL idAuto
  cases h : Lib.hasPrefix l [67, 86, 69, 45]
  · rfl
  · have e : Lib.trimPrefix l [67, 86, 69, 45] = l.drop 4 := by simp [Lib.trimPrefix, h]
    rw [e, (cut_eq _).1, (cut_eq _).2, auto0]

theorem dropWhile_all {p : UInt8 → Bool} : ∀ {l : List UInt8}, l.all p = true → l.dropWhile p = []
  | [], _ => rfl
  | c :: r, h => by
    simp only [List.all_cons, Bool.and_eq_true] at h
    rw [List.dropWhile_cons, if_pos h.1]; exact dropWhile_all h.2

theorem mem_dropWhile {p : UInt8 → Bool} {c : UInt8} (hc : p c = false) : ∀ {l : List UInt8}, c ∈ l → c ∈ l.dropWhile p
  | d :: r, h => by
    rw [List.dropWhile_cons]
    split
    · rename_i hd
      rcases List.mem_cons.1 h with rfl | h
      · rw [hc] at hd; cases hd
      · exact mem_dropWhile hc h
    · exact h

theorem digits_dig (c : UInt8) : ([48, 49, 50, 51, 52, 53, 54, 55, 56, 57] : List UInt8).contains c = dig c := by
  have h : ∀ n : Fin 256, ([48, 49, 50, 51, 52, 53, 54, 55, 56, 57] : List UInt8).contains (UInt8.ofNat n.val) = dig (UInt8.ofNat n.val) := by decide +kernel
  have := h ⟨c.toNat, c.toNat_lt⟩
  simpa using this

/-- isNumber through strings.Trim. -/
theorem trim_num (l : List UInt8) : (Lib.trimS l [48, 49, 50, 51, 52, 53, 54, 55, 56, 57]).isEmpty = l.all dig := by
  unfold Lib.trimS Lib.trimLeftS Lib.trimRightS
  simp only [digits_dig]
  cases ha : l.all dig with
  | true =>
    have h1 : l.reverse.dropWhile (fun x => dig x) = [] := dropWhile_all (by simpa using ha)
    rw [h1]; rfl
  | false =>
    have h1 : ∃ c, c ∈ l ∧ dig c = false := by simpa using ha
    obtain ⟨c, hc, hcd⟩ := h1
    have h4 : c ∈ ((l.reverse.dropWhile (fun x => dig x)).reverse).dropWhile (fun x => dig x) :=
      mem_dropWhile hcd (List.mem_reverse.2 (mem_dropWhile hcd (List.mem_reverse.2 hc)))
    cases hh : ((l.reverse.dropWhile (fun x => dig x)).reverse).dropWhile (fun x => dig x) with
    | nil => rw [hh] at h4; cases h4
    | cons a t => rfl
end Go.Proofs.Qxb6600815aDoor
