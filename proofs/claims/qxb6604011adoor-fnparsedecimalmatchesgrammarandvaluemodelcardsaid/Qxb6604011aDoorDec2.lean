/- The plain reading of a decimal, left to right: no Go in sight. -/
import Derived.Test.Qxb6604011aDoorDec1
namespace Go.Proofs.Qxb6604011aDoor
open Go.Lib

def st1 (l : List UInt8) : Bool × List UInt8 := if l.head? = some 45 then (true, l.drop 1) else (false, l)
def st2 (l : List UInt8) : Option (List UInt8 × List UInt8) :=
  if l.head? = some 46 then (if (l.drop 1).takeWhile dg = [] then none else some ((l.drop 1).takeWhile dg, (l.drop 1).dropWhile dg)) else some ([], l)
def sg (l : List UInt8) : Bool × List UInt8 := if l.head? = some 45 then (true, l.drop 1) else if l.head? = some 43 then (false, l.drop 1) else (false, l)
def st3 (l : List UInt8) : Option (Bool × List UInt8 × List UInt8) :=
  if l.head? = some 101 ∨ l.head? = some 69 then
    (if (sg (l.drop 1)).2.takeWhile dg = [] then none else some ((sg (l.drop 1)).1, (sg (l.drop 1)).2.takeWhile dg, (sg (l.drop 1)).2.dropWhile dg))
  else some (false, [], l)

/-- sign, whole, fraction, exponent's sign, exponent -/
def mParse (l : List UInt8) : Option (Bool × List UInt8 × List UInt8 × Bool × List UInt8) :=
  if (st1 l).2.takeWhile dg = [] then none else
  match st2 ((st1 l).2.dropWhile dg) with
  | none => none
  | some (F, r) => match st3 r with
    | none => none
    | some (en, X, r') => if r' = [] then some ((st1 l).1, (st1 l).2.takeWhile dg, F, en, X) else none

/-- what parseDecimal reads -/
def pExp (l : List UInt8) : List UInt8 × List UInt8 × Bool :=
  if 0 ≤ indexAny l eE then (l.take (indexAny l eE).toNat, l.drop ((indexAny l eE).toNat + 1), true) else (l, [], false)
def pParse (l : List UInt8) : Option (Bool × List UInt8 × List UInt8 × Bool × List UInt8) :=
  let m := pExp (trimPrefix l [45])
  let c := cut m.1 [46]
  let n := hasPrefix m.2.1 [45]
  let x := if n || hasPrefix m.2.1 [43] then m.2.1.drop 1 else m.2.1
  if !allD c.1 || (c.2.2 && !allD c.2.1) || (m.2.2 && !allD x) then none else some (hasPrefix l [45], c.1, c.2.1, n, x)

/-- the five answers off what was read -/
def out (r : Option (Bool × List UInt8 × List UInt8 × Bool × List UInt8)) : Int × List UInt8 × Bool × List UInt8 × Bool :=
  match r with
  | none => (0, [], false, [], false)
  | some (ng, W, F, en, X) =>
    let D := (W ++ F).dropWhile (· == 48)
    if D = [] then (0, [], false, [], true) else
    let sh : Int := (W.length : Int) - ((W ++ F).length - D.length)
    (if ng then -1 else 1, trimRightB D 48, addN en (X.dropWhile (· == 48)) sh, addM en (X.dropWhile (· == 48)) sh, true)

theorem hasPre_one (l : List UInt8) (c : UInt8) : hasPrefix l [c] = (l.head? == some c) := by
  cases l with
  | nil => rfl
  | cons a t =>
    show (([c] : List UInt8).isPrefixOf (a :: t)) = _
    simp [List.isPrefixOf, Bool.beq_comm]

def notE (c : UInt8) : Bool := !(c == 101 || c == 69)
def notDot (c : UInt8) : Bool := !(c == 46)

theorem eE_contains (c : UInt8) : eE.contains c = !notE c := by
  simp only [eE, notE, List.contains_cons, List.contains_nil, Bool.or_false, Bool.not_not]

theorem pExp_cons (c : UInt8) (t : List UInt8) : pExp (c :: t) = if notE c then (c :: (pExp t).1, (pExp t).2) else ([], t, true) := by
  have hg := indexAny_ge eE t
  cases hc : notE c
  · have : eE.contains c = true := by rw [eE_contains, hc]; rfl
    unfold pExp; rw [indexAny, if_pos this]; simp
  · have : ¬ eE.contains c = true := by rw [eE_contains, hc]; simp
    unfold pExp; rw [indexAny, if_neg this]
    by_cases h1 : indexAny t eE = -1
    · simp [h1]
    · have hp : 0 ≤ indexAny t eE := by omega
      obtain ⟨n, hn⟩ : ∃ n : Nat, indexAny t eE = n := ⟨(indexAny t eE).toNat, by omega⟩
      have e1 : ((n : Int) == -1) = false := by rw [beq_eq_false_iff_ne]; omega
      have e2 : (0 : Int) ≤ (n : Int) + 1 := by omega
      have e3 : ((n : Int) + 1).toNat = n + 1 := by omega
      simp [hn, e1, e2, e3]

theorem pExp_eq : ∀ l : List UInt8, pExp l = (l.takeWhile notE, (l.dropWhile notE).drop 1, !(l.dropWhile notE).isEmpty)
  | [] => rfl
  | c :: t => by
    rw [pExp_cons, pExp_eq t, List.takeWhile_cons, List.dropWhile_cons]
    cases notE c <;> simp

theorem cut_cons (c : UInt8) (t : List UInt8) : cut (c :: t) [46] = if notDot c then (c :: (cut t [46]).1, (cut t [46]).2) else ([], t, true) := by
  have hg := index_ge t [46]
  cases hc : notDot c
  · have : (([46] : List UInt8).isPrefixOf (c :: t)) = true := by
      have : c = 46 := by simpa [notDot] using hc
      subst this; simp [List.isPrefixOf]
    unfold cut; rw [index, if_pos this]; simp
  · have : ¬ (([46] : List UInt8).isPrefixOf (c :: t)) = true := by
      have : ¬ c = 46 := by simpa [notDot] using hc
      simp [List.isPrefixOf]; exact fun e => this e.symm
    unfold cut; rw [index, if_neg this]
    by_cases h1 : index t [46] = -1
    · simp [h1]
    · obtain ⟨n, hn⟩ : ∃ n : Nat, index t [46] = n := ⟨(index t [46]).toNat, by omega⟩
      have e1 : ((n : Int) == -1) = false := by rw [beq_eq_false_iff_ne]; omega
      have e2 : (0 : Int) ≤ (n : Int) + 1 := by omega
      have e3 : ((n : Int) + 1).toNat = n + 1 := by omega
      simp [hn, e1, e2, e3]

theorem cut_eq : ∀ l : List UInt8, cut l [46] = (l.takeWhile notDot, (l.dropWhile notDot).drop 1, !(l.dropWhile notDot).isEmpty)
  | [] => rfl
  | c :: t => by
    rw [cut_cons, cut_eq t, List.takeWhile_cons, List.dropWhile_cons]
    cases notDot c <;> simp

theorem dg_notE {c : UInt8} (h : dg c = true) : notE c = true := by
  have := dg_iff.1 h
  simp only [notE, Bool.not_eq_true', Bool.or_eq_false_iff, beq_eq_false_iff_ne]
  constructor <;> (rintro rfl; revert this; decide)
theorem dg_notDot {c : UInt8} (h : dg c = true) : notDot c = true := by
  have := dg_iff.1 h
  simp only [notDot, Bool.not_eq_true', beq_eq_false_iff_ne]
  rintro rfl; revert this; decide

theorem tw_app {p : UInt8 → Bool} : ∀ {W r : List UInt8}, (∀ c ∈ W, p c = true) → (W ++ r).takeWhile p = W ++ r.takeWhile p ∧ (W ++ r).dropWhile p = r.dropWhile p
  | [], _, _ => ⟨rfl, rfl⟩
  | a :: W, r, h => by
    have ih := tw_app (W := W) (r := r) (fun c hc => h c (by simp [hc]))
    simp [h a (by simp), ih.1, ih.2]

/-- the digits ahead, and what follows: nothing, or no digit -/
theorem split_dg (l : List UInt8) : ∃ W r : List UInt8, l = W ++ r ∧ l.takeWhile dg = W ∧ l.dropWhile dg = r ∧ (∀ c ∈ W, dg c = true) ∧ (r = [] ∨ ∃ c t, r = c :: t ∧ dg c = false) := by
  refine ⟨l.takeWhile dg, l.dropWhile dg, (List.takeWhile_append_dropWhile).symm, rfl, rfl, fun c hc => ?_, ?_⟩
  · exact (List.all_eq_true.1 (List.all_takeWhile (p := dg) (l := l))) c hc
  · induction l with
    | nil => exact .inl rfl
    | cons a t ih =>
      rw [List.dropWhile_cons]
      cases h : dg a
      · exact .inr ⟨a, t, by simp, h⟩
      · simpa using ih

theorem allD_app {W : List UInt8} (hW : ∀ c ∈ W, dg c = true) : allD W = !W.isEmpty := by
  unfold allD; rw [List.all_eq_true.2 hW]; rfl
theorem allD_bad {W t : List UInt8} {c : UInt8} (h : dg c = false) : allD (W ++ c :: t) = false := by
  unfold allD; simp [h]

theorem sg_eq (u : List UInt8) : sg u = (hasPrefix u [45], if hasPrefix u [45] || hasPrefix u [43] then u.drop 1 else u) := by
  unfold sg; rw [hasPre_one, hasPre_one]
  by_cases h1 : u.head? = some 45
  · simp [h1]
  · by_cases h2 : u.head? = some 43
    · simp [h2]
    · simp [h1, h2]

/-- the exponent's digits: read to the end, or the text is refused -/
theorem fin_eq {α : Type} (x : List UInt8) (f : List UInt8 → α) :
    (match (if x.takeWhile dg = [] then none else some (x.takeWhile dg, x.dropWhile dg)) with
      | none => none
      | some (X, r') => if r' = [] then some (f X) else none) = if allD x then some (f x) else none := by
  obtain ⟨W, r, hl, h1, h2, hW, hr⟩ := split_dg x
  rw [h1, h2]
  rcases hr with rfl | ⟨c, t, rfl, hc⟩
  · rw [List.append_nil] at hl; subst hl
    rw [allD_app hW]
    cases x <;> simp
  · rw [hl, allD_bad hc]
    cases W <;> simp

theorem fin3 (u : List UInt8) (c : UInt8) (hc : notE c = false) (W F : List UInt8) (ng : Bool) :
    (match st3 (c :: u) with
      | none => none
      | some (en, X, r') => if r' = [] then some (ng, W, F, en, X) else none) =
    if allD (if hasPrefix u [45] || hasPrefix u [43] then u.drop 1 else u) then some (ng, W, F, hasPrefix u [45], if hasPrefix u [45] || hasPrefix u [43] then u.drop 1 else u) else none := by
  have hh : (c :: u).head? = some 101 ∨ (c :: u).head? = some 69 := by
    have : c = 101 ∨ c = 69 := by simpa [notE, Classical.or_iff_not_imp_left] using hc
    rcases this with rfl | rfl <;> simp
  have hd : (c :: u).drop 1 = u := rfl
  unfold st3
  rw [if_pos hh, hd, sg_eq u]
  generalize (if hasPrefix u [45] || hasPrefix u [43] then u.drop 1 else u) = x
  rw [← fin_eq x (fun X => (ng, W, F, hasPrefix u [45], X))]
  by_cases h : x.takeWhile dg = []
  · simp only [h, if_true]
  · simp only [h, if_false]

theorem st1_eq (l : List UInt8) : st1 l = (hasPrefix l [45], trimPrefix l [45]) := by
  unfold st1 trimPrefix; rw [hasPre_one]
  by_cases h : l.head? = some 45 <;> simp [h]

theorem parse_eq (l : List UInt8) : pParse l = mParse l := by
  unfold pParse mParse
  rw [st1_eq]
  simp only [pExp_eq]
  generalize hasPrefix l [45] = ng
  generalize trimPrefix l [45] = L
  obtain ⟨W, r, hl, h1, h2, hW, hr⟩ := split_dg L
  rw [h1, h2]
  have hWe : ∀ c ∈ W, notE c = true := fun c hc => dg_notE (hW c hc)
  have hWd : ∀ c ∈ W, notDot c = true := fun c hc => dg_notDot (hW c hc)
  rw [hl, (tw_app hWe).1, (tw_app hWe).2]
  simp only [cut_eq]
  rw [(tw_app hWd).1, (tw_app hWd).2]
  rcases hr with rfl | ⟨c, t, rfl, hc⟩
  · simp [st2, st3, hasPrefix, allD_app hW]
  · cases he : notE c
    · -- the exponent comes at once
      have hdot : notDot c = true := by
        have : c = 101 ∨ c = 69 := by simpa [notE, Classical.or_iff_not_imp_left] using he
        rcases this with rfl | rfl <;> rfl
      have hs2 : st2 (c :: t) = some ([], c :: t) := by
        unfold st2; rw [if_neg]; simpa [notDot] using hdot
      rw [hs2]
      simp only
      rw [fin3 t c he]
      simp [he, allD_app hW]
      generalize (if hasPrefix t [45] = true ∨ hasPrefix t [43] = true then t.tail else t) = x
      by_cases h : W = [] <;> cases allD x <;> simp [h]
    · cases hd : notDot c
      · have hc46 : c = 46 := by simpa [notDot] using hd
        subst hc46
        obtain ⟨F, r, ht, f1, f2, hF, hr⟩ := split_dg t
        have hFe : ∀ c ∈ F, notE c = true := fun c hc => dg_notE (hF c hc)
        have hs2 : st2 (46 :: t) = if F = [] then none else some (F, r) := by
          unfold st2; rw [if_pos (show (46 :: t).head? = some 46 from rfl), show (46 :: t).drop 1 = t from rfl, f1, f2]
        have e1 : (46 :: t).takeWhile notE = 46 :: (F ++ r.takeWhile notE) := by
          rw [List.takeWhile_cons, if_pos he, ht, (tw_app hFe).1]
        have e2 : (46 :: t).dropWhile notE = r.dropWhile notE := by
          rw [List.dropWhile_cons, if_pos he, ht, (tw_app hFe).2]
        have e3 : ∀ v : List UInt8, (46 :: v).takeWhile notDot = [] ∧ (46 :: v).dropWhile notDot = 46 :: v := fun v => by
          rw [List.takeWhile_cons, List.dropWhile_cons]; simp [hd]
        rw [hs2, e1, e2, (e3 _).1, (e3 _).2]
        have hnil : allD [] = false := rfl
        rcases hr with rfl | ⟨d, u, rfl, hdd⟩
        · have hs3 : st3 [] = some (false, [], []) := rfl
          by_cases hF0 : F = []
          · simp [hasPrefix, allD_app hW, hF0, hnil]
          · simp [hasPrefix, allD_app hW, allD_app hF, hF0, hs3]
        · cases hde : notE d
          · by_cases hF0 : F = []
            · simp [hde, allD_app hW, hF0, hnil]
            · simp only [if_neg hF0, fin3 u d hde]
              simp [hde, allD_app hW, allD_app hF, hF0]
              generalize (if hasPrefix u [45] = true ∨ hasPrefix u [43] = true then u.tail else u) = x
              by_cases h : W = [] <;> cases allD x <;> simp [h]
          · have hs3 : st3 (d :: u) = some (false, [], d :: u) := by
              unfold st3; rw [if_neg]; simpa [notE] using hde
            by_cases hF0 : F = []
            · have hb1 : allD (d :: u.takeWhile notE) = false := allD_bad (W := []) hdd
              simp [hde, hF0, hb1]
            · simp only [if_neg hF0, hs3]
              simp [hde, allD_bad hdd]
      · have hs2 : st2 (c :: t) = some ([], c :: t) := by
          unfold st2; rw [if_neg]; simpa [notDot] using hd
        have hs3 : st3 (c :: t) = some (false, [], c :: t) := by
          unfold st3; rw [if_neg]; simpa [notE] using he
        rw [hs2]; simp only; rw [hs3]
        simp [he, hd, allD_bad hc]
end Go.Proofs.Qxb6604011aDoor
