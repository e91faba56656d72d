/-
  (integer).add: the short road.
-/
import Derived.Test.Qxb6604011aDoorInt64
namespace Go.Proofs.Qxb6604011aDoor
open Go.RowKit Go.Lib

/-- below ten to the eighteenth -/
structure Bnd (n : Int) : Prop where
  lo : -1000000000000000000 < n
  hi : n < 1000000000000000000

/-- what 'add' comes to -/
def addN (neg : Bool) (l : List UInt8) (n : Int) : Bool := decide (sgn neg l + n < 0)
def addM (neg : Bool) (l : List UInt8) (n : Int) : List UInt8 := cd (sgn neg l + n).natAbs

theorem sgn_bnd {neg : Bool} {l : List UInt8} (hl : l.length ≤ 18) (ha : l.all dg = true) : Bnd (sgn neg l) := by
  have := small_bound hl ha
  unfold sgn
  split <;> constructor <;> omega

theorem add_strip (v : Int) : trimLeftB (trimPrefix (itoa v) [45]) 48 = cd v.natAbs := by
  rw [trim_itoa]
  show (decDigits v.natAbs).dropWhile (· == 48) = _
  rw [strip _ (decDigits_all _), val_decDigits]

set_option maxHeartbeats 400000 in
theorem add_small (neg : Bool) (m : ByteArray) (n : Int) (w : World) (hp : Pow w) (hm : m.size ≤ 18) (ha : m.data.toList.all dg = true) (hn : Bnd n) :
    Calls Tryd.prog 18 #[.agg #[.bool neg, .string m], .int .i64 n] w fun e w' => e = .returned (.agg #[.bool (addN neg m.data.toList n), .string ⟨(addM neg m.data.toList n).toArray⟩]) ∧ Below w.heap.size w w' := by
  have c1 := fun w => int64_small neg m w hm ha
  have hs : Bnd (sgn neg m.data.toList) := sgn_bnd (by simpa using hm) ha
  unfold addN addM
  generalize sgn neg m.data.toList = V at *
  have c2 := fun w hp => formatInt (V + n) (by have := hs.lo; have := hn.lo; omega) (by have := hs.hi; have := hn.hi; omega) w hp
  have HST : Hid (trimLeftB (trimPrefix (itoa (V + n)) [45]) 48 = cd (V + n).natAbs) := add_strip (V + n)
  have HW : Hid (wrap64 (V + n) = V + n) := wrap64_small (by have := hs.lo; have := hn.lo; omega) (by have := hs.hi; have := hn.hi; omega)
  clear ha hm
  go_enter Tryd.func18, Tryd.ntmps18
  go_wp2_with fail
  refine (c1 _).mono ?_
  rintro e w1 ⟨rfl, hb⟩
  obtain ⟨hc, hf⟩ := bcell hb
  have hz : w.heap.size + 1 < w1.heap.size := by have := hb.size; simp at this; omega
  have hp1 : Pow w1 := (hp.below (((Below.refl _ _).alloc (Nat.le_refl _) _).alloc (by simp) _) (Nat.le_refl _)).below hb (Nat.le_refl _)
  go_wp2_with fail
  rw [HW.out]
  refine (c2 _ hp1).mono ?_
  rintro e w2 ⟨rfl, hb2⟩
  obtain ⟨hc2, hf2⟩ := bcell hb2
  have hz2 : w1.heap.size ≤ w2.heap.size := hb2.size
  go_wp2_with fail
  refine (trimMinus _ _).mono ?_
  rintro e w3 ⟨rfl, rfl⟩
  go_wp2_with fail
  refine (trimZeros _ _).mono ?_
  rintro e w4 ⟨rfl, rfl⟩
  go_wp2
  refine bodyPost_ret (v := .agg #[.bool (decide (V + n < 0)), .string ⟨(cd (V + n).natAbs).toArray⟩]) ?_ rfl ⟨rfl, ?_⟩
  · rw [← HST.out]
    simp [results, Tryd.results18, go_sem, hc2, hc, hz]
  · have b1 : Below w.heap.size w w1 := (((Below.refl _ _).alloc (Nat.le_refl _) _).alloc (by simp) _).trans (hb.mono (by simp; omega))
    exact ((b1.trans (hb2.mono (by omega))).setCell (by simp) _).setCell (by simp) _
end Go.Proofs.Qxb6604011aDoor
