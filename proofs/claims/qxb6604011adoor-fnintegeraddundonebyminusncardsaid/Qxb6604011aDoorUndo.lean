/-
  The law 'adding n and then -n gives back a': its walk.
-/
import Derived.Test.Qxb6604011aDoorAdd
namespace Go.Proofs.Qxb6604011aDoor
open Go.RowKit

set_option maxHeartbeats 400000 in
theorem bytes13_ok (b : Bool) (s : ByteArray) (n : Int) (w : World) (hs : s.size ≤ 1048576) :
    Calls Tryd.prog 13 #[.bool b, .string s, .int .i64 n] w fun e w' => e = .returned (.bool true) ∧ w' = w := by
  go_enter Tryd.func13, Tryd.ntmps13
  go_wp2
  go_ret
  exact ⟨rfl, rfl⟩
set_option maxHeartbeats 400000 in
theorem bytes13_no (b : Bool) (s : ByteArray) (n : Int) (w : World) (hs : 1048576 < s.size) :
    Calls Tryd.prog 13 #[.bool b, .string s, .int .i64 n] w fun e w' => e = .returned (.bool false) ∧ w' = w := by
  go_enter Tryd.func13, Tryd.ntmps13
  go_wp2
  go_ret
  exact ⟨rfl, rfl⟩

theorem undone {b : Bool} {l : List UInt8} (n : Int) (hc : can l) (h0 : b = true → l ≠ []) :
    addN (addN b l n) (addM b l n) (-n) = b ∧ addM (addN b l n) (addM b l n) (-n) = l := by
  have e : sgn (addN b l n) (addM b l n) + -n = sgn b l := by rw [sgn_add]; omega
  have hv : cd (val l) = l := cd_val hc
  have hpos : l ≠ [] → 0 < val l := fun h => by
    cases l with
    | nil => exact absurd rfl h
    | cons c r =>
      have := can_big hc (n := r.length) (by simp)
      have h1 : 1 ≤ 10 ^ r.length := Nat.one_le_pow _ _ (by decide)
      omega
  constructor
  · show decide (sgn (addN b l n) (addM b l n) + -n < 0) = b
    rw [e]
    unfold sgn
    cases b
    · simp
    · have := hpos (h0 rfl)
      simp; omega
  · show cd (sgn (addN b l n) (addM b l n) + -n).natAbs = l
    rw [e]
    have : (sgn b l).natAbs = val l := by unfold sgn; split <;> simp
    rw [this, hv]

set_option maxHeartbeats 400000 in
theorem undo_walk (b : Bool) (s : ByteArray) (n : Int) (w : World) (hp : Pow w) :
    Calls Tryd.prog 5 #[.bool b, .string s, .int .i64 n] w fun e w' => e = .returned (.bool true) ∧ Below w.heap.size w w' := by
  by_cases hs : s.size ≤ 1048576
  · go_enter Tryd.func5, Tryd.ntmps5
    go_wp2_with fail
    refine (bytes13_ok b s n _ hs).mono ?_
    rintro e w1 ⟨rfl, rfl⟩
    go_wp2_with fail
    · go_ret
      exact ⟨rfl, Below.refl _ _⟩
    · have hn : Bnd n := ⟨by omega, by omega⟩
      refine (canonical_any s _ (by omega)).mono ?_
      rintro e w2 ⟨rfl, rfl⟩
      cases hcan : canB s.data.toList
      · go_wp2
        go_ret
        exact ⟨rfl, Below.refl _ _⟩
      · have HC : Hid (can s.data.toList) := canB_iff.1 hcan
        clear hcan
        by_cases h0 : b = true → s.data.toList ≠ []
        · have hu := undone n HC.out h0
          have hl : s.data.toList.length = s.size := by simp
          have hml := addM_len (neg := b) (n := n) (k := 1048576) HC.out hn (by omega) (by decide)
          have c1 := zzadd_any b s n w2 hp (by omega) HC.out hn
          have c2 := fun w1 hp => zzadd_any (addN b s.data.toList n) ⟨(addM b s.data.toList n).toArray⟩ (-n) w1 hp (by show (addM b s.data.toList n).toArray.size ≤ _; simpa using hml) (addM_can _ _ _) ⟨by have := hn.hi; omega, by have := hn.lo; omega⟩
          have c3 : ∀ w1, Pow w1 → Calls Tryd.prog 11 #[.bool (addN b s.data.toList n), .string ⟨(addM b s.data.toList n).toArray⟩, .int .i64 (-n)] w1 fun e w' => e = .returned (.tuple #[.bool b, .string s]) ∧ Below w1.heap.size w1 w' := by
            intro w1 hp1
            refine (c2 w1 hp1).mono ?_
            rintro e w' ⟨rfl, hb⟩
            refine ⟨?_, hb⟩
            rw [show (⟨(addM b s.data.toList n).toArray⟩ : ByteArray).data.toList = addM b s.data.toList n from rfl, hu.1, hu.2, Go.Joins.bytes_eta]
          have h0' : (b && s.toList.isEmpty) = false := by
            rw [ByteArray.toList_eq]
            cases b
            · rfl
            · have := h0 rfl
              simpa using this
          clear c2 hu hml hl h0
          generalize addN b s.data.toList n = b1 at c1 c3
          generalize addM b s.data.toList n = l1 at c1 c3
          cases b
          all_goals
            go_wp2_with fail
            refine c1.mono ?_
            rintro e w3 ⟨rfl, hb3⟩
            go_wp2_with fail
            refine (c3 _ (hp.below hb3 (Nat.le_refl _))).mono ?_
            rintro e w4 ⟨rfl, hb4⟩
            go_wp2
            go_ret
            exact ⟨by simp, hb3.trans (hb4.mono hb3.size)⟩
        · obtain ⟨rfl, he⟩ : b = true ∧ s.data.toList = [] := by
            cases b
            · simp at h0
            · exact ⟨rfl, by simpa using h0⟩
          clear h0
          have he' : s.toList.isEmpty = true := by rw [ByteArray.toList_eq, he]; rfl
          clear he
          go_wp2
          go_ret
          exact ⟨rfl, Below.refl _ _⟩
    · go_ret
      exact ⟨rfl, Below.refl _ _⟩
  · go_enter Tryd.func5, Tryd.ntmps5
    go_wp2_with fail
    refine (bytes13_no b s n _ (by omega)).mono ?_
    rintro e w1 ⟨rfl, rfl⟩
    go_wp2
    go_ret
    exact ⟨rfl, Below.refl _ _⟩
end Go.Proofs.Qxb6604011aDoor
