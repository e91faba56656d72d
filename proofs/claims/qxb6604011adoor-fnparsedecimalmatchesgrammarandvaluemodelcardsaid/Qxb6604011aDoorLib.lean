/-
  The library's contracts at this program, restated at its own numbers.
-/
import Derived.Test.Qxb6604011aDoorShelf
import Derived.Shelf.Strconv.Itoa4
import Derived.Shelf.Strconv.ParseIntPublic10
import Derived.Shelf.Strings.Prefix
import Derived.Shelf.Strings.Trim
import Derived.Lib.SmallJoins
import Derived.WalkSmall
namespace Go.Proofs.Qxb6604011aDoor
open Go.RowKit Go.Shelf Go.Lib

/-- what FormatInt reads: the table of powers -/
def Pow (w : World) : Prop := TabIs Tryd.prog w "internal/strconv.uint64pow10" .u64 pow10Tab

theorem formatInt (n : Int) (h0 : -9223372036854775808 ≤ n) (h1 : n ≤ 9223372036854775807) (w : World) (ht : Pow w) :
    Calls Tryd.prog 31 #[.int .i64 n, .int .i64 10] w fun e w' => e = .returned (.string ⟨(itoa n).toArray⟩) ∧ Below w.heap.size w w' := by
  refine (show Calls Tryd.prog 31 #[.int .i64 n, .int .i64 10] w _ from Any.strconv_FormatInt_10 Tryd.laysM173 n h0 h1 w ht).mono fun e w' ⟨he, k, os, hw⟩ => ⟨he, ?_⟩
  subst hw
  exact ⟨rfl, rfl, rfl, by show w.heap.size ≤ (w.heap ++ os).size; simp, fun j hj => by show (w.heap ++ os)[j]? = _; rw [Array.getElem?_append, if_pos hj]⟩

theorem parseInt (s : ByteArray) (hs : s.size ≤ 1048577) (v : Int) (h : parseIntB 64 s.data.toList = .ok v) (w : World) :
    Calls Tryd.prog 45 #[.string s, .int .i64 10, .int .i64 64] w fun e w' => e = .returned (.tuple #[.int .i64 v, .nilIface]) ∧ Below w.heap.size w w' := by
  refine (show Calls Tryd.prog 45 #[.string s, .int .i64 10, .int .i64 64] w _ from Any.strconv_ParseInt_10_at64_ok Tryd.laysC174 s (by omega) v h w).mono fun e w' ⟨he, hw⟩ => ⟨he, ?_⟩
  rcases hw with rfl | ⟨t, rfl⟩
  · exact Below.refl _ _
  · exact Go.Joins.below_bytesWorld _ _ _ _ (Nat.le_refl _)

theorem trimMinus (s : ByteArray) (w : World) :
    Calls Tryd.prog 24 #[.string s, .string ⟨#[45]⟩] w fun e w' => e = .returned (.string ⟨(trimPrefix s.data.toList [45]).toArray⟩) ∧ w' = w :=
  Any.strings_TrimPrefix Tryd.lays101 s ⟨#[45]⟩ w

theorem trimZeros (s : ByteArray) (w : World) :
    Calls Tryd.prog 28 #[.string s, .string ⟨#[48]⟩] w fun e w' => e = .returned (.string ⟨(trimLeftB s.data.toList 48).toArray⟩) ∧ w' = w :=
  Any.strings_TrimLeft_one Tryd.lays161 s 48 (by decide) w

theorem gPow : Tryd.prog.globalNamed "internal/strconv.uint64pow10" = some 1 := by kernel_rfl

theorem Pow.lt {w : World} (h : Pow w) : 1 < w.heap.size := by
  unfold Pow TabIs World.var? at h
  simp only [gPow, Option.bind_some] at h
  rcases Nat.lt_or_ge 1 w.heap.size with h' | h'
  · exact h'
  · simp [Array.getElem?_eq_none h'] at h

theorem Pow.below {B : Nat} {w w' : World} (h : Pow w) (hb : Below B w w') (hB : w.heap.size ≤ B) : Pow w' := by
  have hlt := h.lt
  unfold Pow TabIs at *
  exact var?_below hb gPow (by omega) h
end Go.Proofs.Qxb6604011aDoor
