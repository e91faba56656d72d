/-
  (integer).int64.
-/
import Derived.Test.Qxb6604011aDoorRows
import Derived.Test.Qxb6604011aDoorNum
import Derived.Test.Qxb6604011aDoorLib
import Derived.WalkKit
import Derived.WalkSpells
import Derived.WalkLawsBesides
namespace Go.Proofs.Qxb6604011aDoor
open Go.RowKit Go.Lib

theorem bcell {W w1 : World} (hb : Below W.heap.size W w1) : (∀ b o, b < W.heap.size → w1.cell? ⟨b, o, none⟩ = W.cell? ⟨b, o, none⟩) ∧ (∀ b o, b < W.heap.size → w1.frozen? ⟨b, o, none⟩ = W.frozen? ⟨b, o, none⟩) :=
  ⟨fun b o h => hb.cell (p := ⟨b, o, none⟩) h, fun b o h => hb.frozen (p := ⟨b, o, none⟩) h⟩

set_option maxHeartbeats 400000 in
theorem int64_big (neg : Bool) (m : ByteArray) (w : World) (hm : 18 < m.size) :
    Calls Tryd.prog 30 #[.agg #[.bool neg, .string m]] w fun e w' => e = .returned (.tuple #[.int .i64 0, .bool false]) ∧ Below w.heap.size w w' := by
  go_enter Tryd.func30, Tryd.ntmps30
  go_wp2
  go_ret2
  exact ⟨rfl, (Below.refl _ _).alloc (Nat.le_refl _) _⟩

theorem small_bound {l : List UInt8} (hl : l.length ≤ 18) (ha : l.all dg = true) : val l < 1000000000000000000 := by
  have hv := val_lt l ha
  have h18 : 10 ^ l.length ≤ 10 ^ 18 := Nat.pow_le_pow_right (by decide) hl
  have e18 : (10 : Nat) ^ 18 = 1000000000000000000 := by decide
  omega

theorem wrap64_small {n : Int} (h : -9223372036854775808 ≤ n) (h' : n ≤ 9223372036854775807) : wrap64 n = n := by
  unfold wrap64; omega

theorem ret2 {a b : Int} {c : Bool} (h : a = b) : Ending.returned (.tuple #[.int .i64 a, .bool c]) = .returned (.tuple #[.int .i64 b, .bool c]) := by rw [h]

set_option maxHeartbeats 400000 in
theorem int64_small (neg : Bool) (m : ByteArray) (w : World) (hm : m.size ≤ 18) (ha : m.data.toList.all dg = true) :
    Calls Tryd.prog 30 #[.agg #[.bool neg, .string m]] w fun e w' => e = .returned (.tuple #[.int .i64 (sgn neg m.data.toList), .bool true]) ∧ Below w.heap.size w w' := by
  have c := fun w => parseInt (⟨#[48]⟩ ++ m) (by rw [ByteArray.size_append]; show 1 + _ ≤ _; omega) (val m.data.toList : Int) (by rw [Go.Joins.data_append]; exact parse_small m.data.toList (by simpa using hm) ha) w
  have HA : Hid (m.data.toList.all dg = true) := ha
  clear ha
  unfold sgn
  cases neg
  all_goals
    go_enter Tryd.func30, Tryd.ntmps30
    go_wp2_with fail
    refine (c _).mono ?_
    rintro e w1 ⟨rfl, hb⟩
    obtain ⟨hc, hf⟩ := bcell hb
    go_wp2
    go_ret2
    refine ⟨?_, (((Below.refl _ _).alloc (Nat.le_refl _) _).trans (hb.mono (by simp)))⟩
  · rfl
  · have hv := small_bound (by simpa using hm) HA.out
    exact ret2 (wrap64_small (by omega) (by omega))
end Go.Proofs.Qxb6604011aDoor
