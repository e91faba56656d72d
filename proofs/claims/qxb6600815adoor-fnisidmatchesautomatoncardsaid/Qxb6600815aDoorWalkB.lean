import Derived.Test.Qxb6600815aDoorWalkA
import Derived.Test.Qxb6600815aDoorLib
namespace Go.Proofs.Qxb6600815aDoor
open Go.RowKit

set_option maxHeartbeats 400000 in
theorem isNumber_any (s : ByteArray) (w : World) (hs : s.size ≤ 1048576) :
    Calls Tryd.prog 13 #[.string s] w fun e w' => e = .returned (.bool (isNum s.data.toList)) ∧ Below w.heap.size w w' := by
  have c := Tryd.trimDigits s w (by omega)
  have ht := trim_num s.data.toList
  generalize Lib.trimS s.data.toList [48, 49, 50, 51, 52, 53, 54, 55, 56, 57] = r at c ht
  have HT : Hid (r.isEmpty = s.data.toList.all dig) := ht
  clear ht
  unfold isNum
  go_enter Tryd.func13, Tryd.ntmps13
  go_wp2_with fail
  · have hn : s.data.toList = [] := by rw [← ByteArray.toList_eq]; assumption
    go_ret
    exact ⟨ret_bool (by rw [hn]; rfl), Below.refl _ _⟩
  · refine c.mono fun e w1 ⟨he, hb⟩ => ?_
    subst he
    go_wp2
    go_ret
    exact ⟨ret_bool (by rw [ByteArray.toList_eq, HT.out]), hb⟩

theorem Cut_len (l : List UInt8) : (Lib.cut l [45]).1.length ≤ l.length ∧ (Lib.cut l [45]).2.1.length ≤ l.length := by
  unfold Lib.cut
  split
  · constructor <;> simp <;> omega
  · simp
end Go.Proofs.Qxb6600815aDoor
