/-
  The law 'add is the schoolbook sum': its walk.
-/
import Derived.Test.Qxb6604011aDoorModel
namespace Go.Proofs.Qxb6604011aDoor
open Go.RowKit

set_option maxHeartbeats 400000 in
theorem bytes9_ok (b : Bool) (s : ByteArray) (n : Int) (w : World) (hs : s.size ≤ 1048576) :
    Calls Tryd.prog 9 #[.bool b, .string s, .int .i64 n] w fun e w' => e = .returned (.bool true) ∧ w' = w := by
  go_enter Tryd.func9, Tryd.ntmps9
  go_wp2
  go_ret
  exact ⟨rfl, rfl⟩
set_option maxHeartbeats 400000 in
theorem bytes9_no (b : Bool) (s : ByteArray) (n : Int) (w : World) (hs : 1048576 < s.size) :
    Calls Tryd.prog 9 #[.bool b, .string s, .int .i64 n] w fun e w' => e = .returned (.bool false) ∧ w' = w := by
  go_enter Tryd.func9, Tryd.ntmps9
  go_wp2
  go_ret
  exact ⟨rfl, rfl⟩

set_option maxHeartbeats 400000 in
theorem school_walk (b : Bool) (s : ByteArray) (n : Int) (w : World) (hp : Pow w) :
    Calls Tryd.prog 4 #[.bool b, .string s, .int .i64 n] w fun e w' => e = .returned (.bool true) ∧ Below w.heap.size w w' := by
  by_cases hs : s.size ≤ 1048576
  · go_enter Tryd.func4, Tryd.ntmps4
    go_wp2_with fail
    refine (bytes9_ok b s n _ hs).mono ?_
    rintro e w1 ⟨rfl, rfl⟩
    go_wp2_with fail
    · go_ret
      exact ⟨rfl, Below.refl _ _⟩
    · have hn : Bnd n := ⟨by omega, by omega⟩
      refine (canonical_any s _ (by omega)).mono ?_
      rintro e w2 ⟨rfl, rfl⟩
      cases hcan : canB s.data.toList
      · go_wp2
        go_ret
        exact ⟨rfl, Below.refl _ _⟩
      · have c1 := zzadd_any b s n w2 hp (by omega) (canB_iff.1 hcan) hn
        have c2 := fun w1 => model_any b s n w1 (by omega) (canB_iff.1 hcan) hn
        clear hcan
        generalize addN b s.data.toList n = b1 at c1 c2
        generalize addM b s.data.toList n = l1 at c1 c2
        go_wp2_with fail
        refine c1.mono ?_
        rintro e w3 ⟨rfl, hb3⟩
        go_wp2_with fail
        refine (c2 _).mono ?_
        rintro e w4 ⟨rfl, hb4⟩
        go_wp2
        go_ret
        exact ⟨by simp, hb3.trans (hb4.mono hb3.size)⟩
    · go_ret
      exact ⟨rfl, Below.refl _ _⟩
  · go_enter Tryd.func4, Tryd.ntmps4
    go_wp2_with fail
    refine (bytes9_no b s n _ (by omega)).mono ?_
    rintro e w1 ⟨rfl, rfl⟩
    go_wp2
    go_ret
    exact ⟨rfl, Below.refl _ _⟩
end Go.Proofs.Qxb6604011aDoor
