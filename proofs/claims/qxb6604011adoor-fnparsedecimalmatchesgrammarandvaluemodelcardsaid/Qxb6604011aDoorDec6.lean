/- ZZparseDecimal and the guard of the law, off the contract of parseDecimal. -/
import Derived.Test.Qxb6604011aDoorDec3
namespace Go.Proofs.Qxb6604011aDoor
open Go.RowKit

set_option maxHeartbeats 800000 in
theorem zz_of (s : ByteArray) (w : World) (o1 : Int) (o2 : ByteArray) (o3 : Bool) (o4 : ByteArray) (o5 : Bool)
    (c : Calls Tryd.prog 14 #[.string s] w fun e w' => e = .returned (.tuple #[.agg #[.int .i64 o1, .string o2, .bool o3, .string o4], .bool o5]) ∧ Below w.heap.size w w') :
    Calls Tryd.prog 7 #[.string s] w fun e w' => e = .returned (.tuple #[.int .i64 o1, .string o2, .bool o3, .string o4, .bool o5]) ∧ Below w.heap.size w w' := by
  go_enter Tryd.func7, Tryd.ntmps7
  go_wp2_with fail
  refine c.mono ?_
  rintro e w1 ⟨rfl, hb⟩
  go_wp2_with fail
  go_quiet (fail)
  go_wp2_with fail
  refine bodyPost_ret (results_tmp5 rfl _ _ _) rfl ?_
  exact ⟨rfl, below_drewN (hb.alloc hb.size _) _⟩

set_option maxHeartbeats 400000 in
theorem bytes6_ok (s : ByteArray) (w : World) (hs : s.size ≤ 1048576) :
    Calls Tryd.prog 6 #[.string s] w fun e w' => e = .returned (.bool true) ∧ w' = w := by
  go_enter Tryd.func6, Tryd.ntmps6
  go_wp2
  go_ret
  exact ⟨rfl, rfl⟩
set_option maxHeartbeats 400000 in
theorem bytes6_no (s : ByteArray) (w : World) (hs : 1048576 < s.size) :
    Calls Tryd.prog 6 #[.string s] w fun e w' => e = .returned (.bool false) ∧ w' = w := by
  go_enter Tryd.func6, Tryd.ntmps6
  go_wp2
  go_ret
  exact ⟨rfl, rfl⟩

set_option maxHeartbeats 800000 in
theorem law_of (s : ByteArray) (w : World) (o1 : Int) (o2 : ByteArray) (o3 : Bool) (o4 : ByteArray) (o5 : Bool)
    (c1 : s.size ≤ 1048576 → Calls Tryd.prog 7 #[.string s] w fun e w' => e = .returned (.tuple #[.int .i64 o1, .string o2, .bool o3, .string o4, .bool o5]) ∧ Below w.heap.size w w')
    (c2 : s.size ≤ 1048576 → ∀ w, Calls Tryd.prog 8 #[.string s] w fun e w' => e = .returned (.tuple #[.int .i64 o1, .string o2, .bool o3, .string o4, .bool o5]) ∧ Below w.heap.size w w') :
    Calls Tryd.prog 3 #[.string s] w fun e w' => e = .returned (.bool true) ∧ Below w.heap.size w w' := by
  by_cases hs : s.size ≤ 1048576
  · have d1 := c1 hs
    have d2 := c2 hs
    clear c1 c2
    go_enter Tryd.func3, Tryd.ntmps3
    go_wp2_with fail
    refine (bytes6_ok s _ hs).mono ?_
    rintro e w1 ⟨rfl, rfl⟩
    go_wp2_with fail
    refine d1.mono ?_
    rintro e w3 ⟨rfl, hb3⟩
    go_wp2_with fail
    refine (d2 _).mono ?_
    rintro e w4 ⟨rfl, hb4⟩
    go_wp2_with fail
    go_ret
    exact ⟨by simp, hb3.trans (hb4.mono hb3.size)⟩
  · go_enter Tryd.func3, Tryd.ntmps3
    go_wp2_with fail
    refine (bytes6_no s _ (by omega)).mono ?_
    rintro e w1 ⟨rfl, rfl⟩
    go_wp2_with fail
    go_ret
    exact ⟨rfl, Below.refl _ _⟩
end Go.Proofs.Qxb6604011aDoor
