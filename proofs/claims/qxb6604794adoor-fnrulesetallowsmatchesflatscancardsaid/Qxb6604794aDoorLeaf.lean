import Derived.Test.Qxb6604794aDoorRows
import Derived.WalkKit
import Derived.WalkSpells
import Derived.WalkLawsBesides
namespace Go.Proofs.Qxb6604794aDoor
open Go.RowKit

/-- what a grant byte lets by: 2 everything, 1 reads. -/
def grantOk (g : Int) (write : Bool) : Bool := (g == 2) || ((g == 1) && !write)

set_option maxHeartbeats 400000 in
theorem grantAllows_any (g : Int) (b : Bool) (w : World) :
    Calls Tryd.prog 21 #[.int .u8 g, .bool b] w fun e w' => e = .returned (.bool (grantOk g b)) ∧ w' = w := by
  unfold grantOk
  by_cases h2 : g = 2
  · subst h2
    go_enter Tryd.func21, Tryd.ntmps21
    go_wp2
    go_ret
    exact ⟨rfl, rfl⟩
  · have h2' : (g == 2) = false := by simpa using h2
    by_cases h1 : g = 1
    · subst h1
      go_enter Tryd.func21, Tryd.ntmps21
      go_wp2
      go_ret
      exact ⟨by simp, rfl⟩
    · have h1' : (g == 1) = false := by simpa using h1
      go_enter Tryd.func21, Tryd.ntmps21
      go_wp2
      go_ret
      exact ⟨by simp [h1', h2'], rfl⟩

set_option maxHeartbeats 400000 in
theorem zzGrant_any (g : Int) (b : Bool) (w : World) :
    Calls Tryd.prog 13 #[.int .u8 g, .bool b] w fun e w' => e = .returned (.bool (grantOk g b)) ∧ w' = w := by
  unfold grantOk
  by_cases h2 : g = 2
  · subst h2
    go_enter Tryd.func13, Tryd.ntmps13
    go_wp2
    go_ret
    exact ⟨rfl, rfl⟩
  · have h2' : (g == 2) = false := by simpa using h2
    by_cases h1 : g = 1
    · subst h1
      go_enter Tryd.func13, Tryd.ntmps13
      go_wp2
      go_ret
      exact ⟨by simp, rfl⟩
    · have h1' : (g == 1) = false := by simpa using h1
      go_enter Tryd.func13, Tryd.ntmps13
      go_wp2
      go_ret
      exact ⟨by simp [h1', h2'], rfl⟩
end Go.Proofs.Qxb6604794aDoor
