import Derived.Test.Qxb6600815aDoorWalkB
namespace Go.Proofs.Qxb6600815aDoor
open Go.RowKit

theorem tp_len (l : List UInt8) : (Lib.trimPrefix l [67, 86, 69, 45]).length ≤ l.length := by
  unfold Lib.trimPrefix
  split
  · simp
  · exact Nat.le_refl _

set_option maxHeartbeats 1000000 in
theorem isID_any (s : ByteArray) (w : World) (hs : s.size ≤ 1048576)
    (c1 : Calls Tryd.prog 11 #[.string s, .string ⟨#[67, 86, 69, 45]⟩] w fun e w' => e = .returned (.tuple #[.string ⟨(Lib.trimPrefix s.data.toList [67, 86, 69, 45]).toArray⟩, .bool (Lib.hasPrefix s.data.toList [67, 86, 69, 45])]) ∧ w' = w)
    (c2 : ∀ t : ByteArray, t.size < 4294967281 → Calls Tryd.prog 12 #[.string t, .string ⟨#[45]⟩] w fun e w' => e = .returned (.tuple #[.string ⟨(Lib.cut t.data.toList [45]).1.toArray⟩, .string ⟨(Lib.cut t.data.toList [45]).2.1.toArray⟩, .bool (Lib.cut t.data.toList [45]).2.2]) ∧ ∃ n, w' = w.drewN n) :
    Calls Tryd.prog 10 #[.string s] w fun e w' => e = .returned (.bool (isIdL s.data.toList)) ∧ Below w.heap.size w w' := by
  have htp := tp_len s.data.toList
  unfold isIdL
  generalize Lib.trimPrefix s.data.toList [67, 86, 69, 45] = tp at *
  have hl : s.data.toList.length = s.size := by simp
  have c3 := c2 ⟨tp.toArray⟩ (by show tp.toArray.size < _; simp; omega)
  simp only at c3
  have hcl := Cut_len tp
  generalize (Lib.cut tp [45]).1 = y at *
  generalize (Lib.cut tp [45]).2.1 = n at *
  generalize (Lib.cut tp [45]).2.2 = b at *
  have hy : (⟨y.toArray⟩ : ByteArray).size ≤ 1048576 := by show y.toArray.size ≤ _; simp; omega
  have hn : (⟨n.toArray⟩ : ByteArray).size ≤ 1048576 := by show n.toArray.size ≤ _; simp; omega
  clear c2
  cases hp : Lib.hasPrefix s.data.toList [67, 86, 69, 45]
  · rw [hp] at c1
    go_enter Tryd.func10, Tryd.ntmps10
    go_wp2_with fail
    refine c1.mono ?_
    rintro e w1 ⟨rfl, rfl⟩
    go_wp2_with fail
    refine c3.mono ?_
    rintro e w2 ⟨rfl, k, rfl⟩
    go_wp2
    go_ret
    exact ⟨rfl, below_drewN (Below.refl _ _) _⟩
  · rw [hp] at c1
    go_enter Tryd.func10, Tryd.ntmps10
    go_wp2_with fail
    refine c1.mono ?_
    rintro e w1 ⟨rfl, rfl⟩
    go_wp2_with fail
    refine c3.mono ?_
    rintro e w2 ⟨rfl, k, rfl⟩
    go_wp2_with fail
    refine (isNumber_any _ _ hy).mono ?_
    rintro e w2 ⟨rfl, hb2⟩
    have hb3 : Below w1.heap.size w1 w2 := (below_drewN (Below.refl _ _) k).trans hb2
    cases hy1 : isNum y
    · go_wp2
      go_ret
      exact ⟨ret_bool (by rw [hy1]; rfl), hb3⟩
    · go_wp2_with fail
      refine (isNumber_any _ _ hn).mono ?_
      rintro e w3 ⟨rfl, hb4⟩
      go_wp2
      go_ret
      exact ⟨ret_bool (by rw [hy1]; simp), hb3.trans (hb4.mono hb3.size)⟩

set_option maxHeartbeats 1000000 in
theorem zz_any (s : ByteArray) (w : World) (hs : s.size ≤ 1048576) (hsh : w.ShapedOpen Tryd.prog) :
    Calls Tryd.prog 6 #[.string s] w fun e w' => e = .returned (.bool (isIdL s.data.toList)) ∧ Below w.heap.size w w' := by
  have c := isID_any s w hs (Tryd.cutPrefix s w) (fun t ht => Tryd.cutDash t w hsh ht)
  generalize isIdL s.data.toList = r at c ⊢
  go_enter Tryd.func6, Tryd.ntmps6
  go_wp2_with fail
  refine c.mono ?_
  rintro e w1 ⟨rfl, hb⟩
  go_wp2
  go_ret
  exact ⟨rfl, hb⟩

set_option maxHeartbeats 1000000 in
theorem law_walk (s : ByteArray) (w : World) (hsh : w.ShapedOpen Tryd.prog) :
    Calls Tryd.prog 3 #[.string s] w fun e w' => e = .returned (.bool true) ∧ Below w.heap.size w w' := by
  by_cases hs : s.size ≤ 1048576
  · have c6 := zz_any s w hs hsh
    rw [law] at c6
    have c7 := fun w1 => auto_any s w1 hs
    generalize idAuto s.data.toList = r at c6 c7
    go_enter Tryd.func3, Tryd.ntmps3
    go_wp2_with fail
    refine (bytes_ok s _ hs).mono ?_
    rintro e w1 ⟨rfl, rfl⟩
    go_wp2_with fail
    refine c6.mono ?_
    rintro e w2 ⟨rfl, hb⟩
    go_wp2_with fail
    refine (c7 _).mono ?_
    rintro e w3 ⟨rfl, rfl⟩
    go_wp2
    go_ret
    exact ⟨by simp, hb⟩
  · go_enter Tryd.func3, Tryd.ntmps3
    go_wp2_with fail
    refine (bytes_no s _ (by omega)).mono ?_
    rintro e w1 ⟨rfl, rfl⟩
    go_wp2
    go_ret
    exact ⟨rfl, Below.refl _ _⟩
end Go.Proofs.Qxb6600815aDoor
