import Derived.Test.Qxb6604011aDoorDec2
import Derived.Deep.DeepCutAuto
namespace Go.Proofs.Qxb6604011aDoor
open Go.RowKit Go.Lib

def five (r : Int × List UInt8 × Bool × List UInt8 × Bool) : Value := .tuple #[.int .i64 r.1, .string ⟨r.2.1.toArray⟩, .bool r.2.2.1, .string ⟨r.2.2.2.1.toArray⟩, .bool r.2.2.2.2]

/-- the byte c stands at i -/
def atB (l : List UInt8) (i : Nat) (c : UInt8) : Bool := (l.drop i).head? == some c

theorem atB_ge {s : ByteArray} {i : Nat} (h : ¬ i < s.size) (c : UInt8) : atB s.data.toList i c = false := by
  unfold atB; rw [List.drop_of_length_le (by simp; omega)]; rfl
theorem atB_lt {s : ByteArray} {i : Nat} (h : i < s.size) (c : UInt8) (n : Int) (hn : (c.toNat : Int) = n) : ((s[i].toNat : Int) == n) = atB s.data.toList i c := by
  unfold atB; rw [drop_at s i h, Bool.eq_iff_iff]; subst hn
  simp only [beq_iff_eq, List.head?_cons, Option.some.injEq]
  exact ⟨fun e => UInt8.toNat_inj.1 (by omega), fun e => by rw [e]⟩
theorem atB_true {s : ByteArray} {i : Nat} {c : UInt8} (h : atB s.data.toList i c = true) : i < s.size ∧ (s.data.toList.drop i).head? = some c := by
  refine ⟨?_, by simpa [atB] using h⟩
  rcases Nat.lt_or_ge i s.size with h' | h'
  · exact h'
  · rw [atB_ge (by omega)] at h; cases h
theorem atB_false {l : List UInt8} {i : Nat} {c : UInt8} (h : atB l i c = false) : ¬ (l.drop i).head? = some c := by
  simpa [atB] using h

theorem st1_yes {s : ByteArray} (h : atB s.data.toList 0 45 = true) : st1 s.data.toList = (true, s.data.toList.drop 1) := by
  unfold st1; rw [if_pos (by simpa using (atB_true h).2)]
theorem st1_no {s : ByteArray} (h : atB s.data.toList 0 45 = false) : st1 s.data.toList = (false, s.data.toList.drop 0) := by
  unfold st1; rw [if_neg (by simpa using atB_false h)]; rfl

theorem results_tmp5 {fn : Func} {a b c d e : Tmp} (h : fn.results = #[.tmp a, .tmp b, .tmp c, .tmp d, .tmp e]) (tmps : Array Value) (P : Program) (w : World) :
    (results fn tmps).run P w = .ok (.tuple #[tmps.getD a undef, tmps.getD b undef, tmps.getD c undef, tmps.getD d undef, tmps.getD e undef]) w := by
  simp [results, h]
theorem skip_eq (l : List UInt8) (k : Nat) : skip l k = k + ((l.drop k).takeWhile dg).length := rfl
theorem tw_len : ∀ (m : List UInt8), m.drop (m.takeWhile dg).length = m.dropWhile dg ∧ m.take (m.takeWhile dg).length = m.takeWhile dg
  | [] => ⟨rfl, rfl⟩
  | c :: t => by
    have ih := tw_len t
    cases h : dg c <;> simp [h, ih.1, ih.2]
theorem skip_drop (l : List UInt8) (k : Nat) : l.drop (skip l k) = (l.drop k).dropWhile dg := by
  rw [skip_eq, ← List.drop_drop, (tw_len _).1]
theorem skip_part (l : List UInt8) (k : Nat) : (l.take (skip l k)).drop k = (l.drop k).takeWhile dg := by
  rw [skip_eq, List.drop_take, Nat.add_sub_cancel_left, (tw_len _).2]
theorem skip_le {s : ByteArray} {k : Nat} (h : k ≤ s.size) : k ≤ skip s.data.toList k ∧ skip s.data.toList k ≤ s.size := by
  have h1 : ((s.data.toList.drop k).takeWhile dg).length ≤ (s.data.toList.drop k).length := (List.takeWhile_sublist _).length_le
  rw [List.length_drop, ← Lib.size_eq] at h1
  rw [skip_eq]; omega
theorem skip_nil {l : List UInt8} {k : Nat} : skip l k = k ↔ (l.drop k).takeWhile dg = [] := by
  rw [skip_eq]; constructor
  · intro h; exact List.eq_nil_of_length_eq_zero (by omega)
  · intro h; rw [h]; rfl

theorem none_whole {l : List UInt8} {n : Bool} {k : Nat} (h : st1 l = (n, l.drop k)) (hz : skip l k = k) : mParse l = none := by
  unfold mParse; rw [h]; rw [if_pos (skip_nil.1 hz)]

theorem take_drop_self (l : List UInt8) (k : Nat) : (l.take k).drop k = [] := by rw [List.drop_take, Nat.sub_self]; rfl
theorem drop_one (l : List UInt8) (k : Nat) : (l.drop k).drop 1 = l.drop (k + 1) := List.drop_drop ..

theorem st2_no {l : List UInt8} {k : Nat} (h : atB l k 46 = false) : st2 (l.drop k) = some ((l.take k).drop k, l.drop k) := by
  unfold st2; rw [if_neg (atB_false h), take_drop_self]
theorem st2_yes {s : ByteArray} {k b : Nat} (h : atB s.data.toList k 46 = true) (hb : skip s.data.toList (k + 1) = b) (hz : b ≠ k + 1) :
    st2 (s.data.toList.drop k) = some ((s.data.toList.take b).drop (k + 1), s.data.toList.drop b) := by
  subst hb
  unfold st2; rw [if_pos (atB_true h).2, drop_one, if_neg (fun e => hz (skip_nil.2 e)), skip_part, skip_drop]
theorem st2_none {s : ByteArray} {k : Nat} (h : atB s.data.toList k 46 = true) (hb : skip s.data.toList (k + 1) = k + 1) : st2 (s.data.toList.drop k) = none := by
  unfold st2; rw [if_pos (atB_true h).2, drop_one, if_pos (skip_nil.1 hb)]

theorem st3_no {l : List UInt8} {k : Nat} (h1 : atB l k 101 = false) (h2 : atB l k 69 = false) : st3 (l.drop k) = some (false, (l.take k).drop k, l.drop k) := by
  unfold st3; rw [if_neg (by rintro (h | h); exact atB_false h1 h; exact atB_false h2 h), take_drop_self]
theorem sg_no {l : List UInt8} {k : Nat} (h1 : atB l k 43 = false) (h2 : atB l k 45 = false) : sg (l.drop k) = (false, l.drop k) := by
  unfold sg; rw [if_neg (atB_false h2), if_neg (atB_false h1)]
theorem sg_minus {s : ByteArray} {k : Nat} (h : atB s.data.toList k 45 = true) : sg (s.data.toList.drop k) = (true, s.data.toList.drop (k + 1)) := by
  unfold sg; rw [if_pos (atB_true h).2, drop_one]
theorem sg_plus {s : ByteArray} {k : Nat} (h : atB s.data.toList k 43 = true) : sg (s.data.toList.drop k) = (false, s.data.toList.drop (k + 1)) := by
  unfold sg; rw [if_neg, if_pos (atB_true h).2, drop_one]
  rw [(atB_true h).2]; decide
theorem plus_minus {s : ByteArray} {k : Nat} (h : atB s.data.toList k 43 = true) : atB s.data.toList k 45 = false := by
  unfold atB; rw [(atB_true h).2]; rfl
theorem st3_yes {s : ByteArray} {k c d : Nat} {n : Bool} (h : atB s.data.toList k 101 = true ∨ atB s.data.toList k 69 = true) (hg : sg (s.data.toList.drop (k + 1)) = (n, s.data.toList.drop c)) (hd : skip s.data.toList c = d) (hz : d ≠ c) :
    st3 (s.data.toList.drop k) = some (n, (s.data.toList.take d).drop c, s.data.toList.drop d) := by
  subst hd
  unfold st3; rw [if_pos (h.imp (fun h => (atB_true h).2) (fun h => (atB_true h).2)), drop_one, hg, if_neg (fun e => hz (skip_nil.2 e)), skip_part, skip_drop]
theorem st3_none {s : ByteArray} {k c : Nat} {n : Bool} (h : atB s.data.toList k 101 = true ∨ atB s.data.toList k 69 = true) (hg : sg (s.data.toList.drop (k + 1)) = (n, s.data.toList.drop c)) (hd : skip s.data.toList c = c) :
    st3 (s.data.toList.drop k) = none := by
  unfold st3; rw [if_pos (h.imp (fun h => (atB_true h).2) (fun h => (atB_true h).2)), drop_one, hg, if_pos (skip_nil.1 hd)]

/-- what has been read as far as the fraction -/
structure Rd2 (l : List UInt8) (n : Bool) (k k2 : Nat) : Prop where
  one : st1 l = (n, l.drop k)
  two : skip l k = k2
  ne : k2 ≠ k
structure Rd3 (l : List UInt8) (n : Bool) (k k2 a b : Nat) : Prop extends Rd2 l n k k2 where
  three : st2 (l.drop k2) = some ((l.take b).drop a, l.drop b)
structure Rd4 (l : List UInt8) (n : Bool) (k k2 a b : Nat) (en : Bool) (c d : Nat) : Prop extends Rd3 l n k k2 a b where
  four : st3 (l.drop b) = some (en, (l.take d).drop c, l.drop d)

theorem Rd2.none {l : List UInt8} {n : Bool} {k k2 : Nat} (h : Rd2 l n k k2) (h3 : st2 (l.drop k2) = .none) : mParse l = .none := by
  unfold mParse; rw [h.one]; simp only
  rw [if_neg (fun e => h.ne (by rw [← h.two]; exact skip_nil.2 e)), ← skip_drop, h.two, h3]
theorem Rd3.none {l : List UInt8} {n : Bool} {k k2 a b : Nat} (h : Rd3 l n k k2 a b) (h4 : st3 (l.drop b) = .none) : mParse l = .none := by
  unfold mParse; rw [h.one]; simp only
  rw [if_neg (fun e => h.ne (by rw [← h.two]; exact skip_nil.2 e)), ← skip_drop, h.two, h.three]; simp only [h4]
theorem Rd4.all {l : List UInt8} {n : Bool} {k k2 a b : Nat} {en : Bool} {c d : Nat} (h : Rd4 l n k k2 a b en c d) :
    mParse l = if l.drop d = [] then some (n, (l.take k2).drop k, (l.take b).drop a, en, (l.take d).drop c) else .none := by
  unfold mParse; rw [h.one]; simp only
  rw [if_neg (fun e => h.ne (by rw [← h.two]; exact skip_nil.2 e)), ← skip_drop, h.two, h.three]; simp only [h.four]
  rw [← skip_part, h.two]

end Go.Proofs.Qxb6604011aDoor
