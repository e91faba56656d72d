/-
  The walks that need no contract of the library's: the two guards, the digit test, the automaton.
-/
import Derived.Test.Qxb6600815aDoorRows
import Derived.Test.Qxb6600815aDoorPlain
import Derived.WalkKit
import Derived.WalkSpells
import Derived.WalkLawsBesides
namespace Go.Proofs.Qxb6600815aDoor
open Go.RowKit

set_option maxHeartbeats 400000 in
theorem bytes_ok (s : ByteArray) (w : World) (hs : s.size ≤ 1048576) :
    Calls Tryd.prog 5 #[.string s] w fun e w' => e = .returned (.bool true) ∧ w' = w := by
  go_enter Tryd.func5, Tryd.ntmps5
  go_wp2
  go_ret
  exact ⟨rfl, rfl⟩

set_option maxHeartbeats 400000 in
theorem bytes_no (s : ByteArray) (w : World) (hs : 1048576 < s.size) :
    Calls Tryd.prog 5 #[.string s] w fun e w' => e = .returned (.bool false) ∧ w' = w := by
  go_enter Tryd.func5, Tryd.ntmps5
  go_wp2
  go_ret
  exact ⟨rfl, rfl⟩

theorem ret_bool {a b : Bool} (h : a = b) : Ending.returned (.bool a) = .returned (.bool b) := by rw [h]

set_option maxHeartbeats 400000 in
theorem isDigit_any (c : UInt8) (w : World) :
    Calls Tryd.prog 9 #[.int .u8 c.toNat] w fun e w' => e = .returned (.bool (dig c)) ∧ w' = w := by
  unfold dig
  by_cases h1 : 48 ≤ c.toNat
  · go_enter Tryd.func9, Tryd.ntmps9
    go_wp2
    go_ret
    exact ⟨ret_bool (by simp [h1]; omega), rfl⟩
  · go_enter Tryd.func9, Tryd.ntmps9
    go_wp2
    go_ret
    exact ⟨ret_bool (by simp), rfl⟩

theorem pre_eq (s : ByteArray) (h : 4 ≤ s.size) : Lib.hasPrefix s.data.toList [67, 86, 69, 45] = (decide (s[0].toNat = 67) && (decide (s[1].toNat = 86) && (decide (s[2].toNat = 69) && decide (s[3].toNat = 45)))) := by
  obtain ⟨⟨l⟩⟩ := s
  have h' : 4 ≤ l.length := h
  match l, h' with
  | a :: b :: c :: d :: r, _ =>
    have e : ∀ (x y : UInt8), (x == y) = decide (y.toNat = x.toNat) := fun x y => by
      rw [Bool.eq_iff_iff, beq_iff_eq, decide_eq_true_iff, ← UInt8.toNat_inj]; exact eq_comm
    show List.isPrefixOf [67, 86, 69, 45] (a :: b :: c :: d :: r) = _
    simp only [List.isPrefixOf, e, Bool.and_true]
    rfl

theorem pre_short (s : ByteArray) (h : s.size < 4) : Lib.hasPrefix s.data.toList [67, 86, 69, 45] = false := by
  obtain ⟨⟨l⟩⟩ := s
  have h' : l.length < 4 := h
  match l, h' with
  | [], _ => rfl
  | [_], _ => simp [Lib.hasPrefix, List.isPrefixOf]
  | [_, _], _ => simp [Lib.hasPrefix, List.isPrefixOf]
  | [_, _, _], _ => simp [Lib.hasPrefix, List.isPrefixOf]

theorem drop_at (s : ByteArray) (k : Nat) (h : k < s.size) : s.data.toList.drop k = s[k] :: s.data.toList.drop (k + 1) := by
  rw [List.drop_eq_getElem_cons (by simpa using h)]; rfl

theorem auto_dash {c : UInt8} {r : List UInt8} {t : Nat} (hd : dig c = false) (h : (c.toNat : Int) = 45) (ht : ((t : Int) == 1) = true) : auto t (c :: r) = auto 2 r := by
  have ht' : t = 1 := by have := beq_iff_eq.1 ht; omega
  rw [auto, hd, if_neg (by decide), if_pos ⟨by omega, ht'⟩]
theorem auto_no1 {c : UInt8} {r : List UInt8} {t : Nat} (hd : dig c = false) (ht : ((t : Int) == 1) = false) : auto t (c :: r) = false := by
  have ht' : t ≠ 1 := by have := beq_eq_false_iff_ne.1 ht; omega
  rw [auto, hd, if_neg (by decide), if_neg (fun h => ht' h.2)]
theorem auto_no2 {c : UInt8} {r : List UInt8} {t : Nat} (hd : dig c = false) (h : ¬ (c.toNat : Int) = 45) : auto t (c :: r) = false := by
  rw [auto, hd, if_neg (by decide), if_neg (fun e => h (by omega))]

set_option maxHeartbeats 1000000 in
theorem auto_yes (s : ByteArray) (w : World) (hs : s.size ≤ 1048576) (h4 : 4 ≤ s.size) (h0 : (s[0].toNat : Int) = 67) (h1 : (s[1].toNat : Int) = 86) (h2 : (s[2].toNat : Int) = 69) (h3 : (s[3].toNat : Int) = 45) :
    Calls Tryd.prog 7 #[.string s] w fun e w' => e = .returned (.bool (auto 0 (s.data.toList.drop 4))) ∧ w' = w := by
  go_enter Tryd.func7, Tryd.ntmps7
  go_wp2
  go_loop [3, 4] (fun st i => ∃ k t : Nat, 4 ≤ k ∧ k ≤ s.size ∧ t ≤ 3 ∧ st = .int .i64 t ∧ i = .int .i64 k ∧ Hid (auto 0 (s.data.toList.drop 4) = auto t (s.data.toList.drop k))) (fun _ i => s.size - (intOf i).toNat)
  case atStart => exact ⟨4, 0, by omega, by omega, by omega, rfl, rfl, rfl⟩
  case round =>
    obtain ⟨k, t, hk4, hk, ht, rfl, rfl, H⟩ := hrel
    by_cases hlt : k < s.size
    · have HD : Hid (s.data.toList.drop k = s[k] :: s.data.toList.drop (k + 1)) := drop_at s k hlt
      cases hd : dig s[k]
      · go_wp2_with (go_at_call 9; refine (isDigit_any _ _).mono ?_; rintro e w' ⟨rfl, rfl⟩)
        · go_round
          case rel => exact ⟨k + 1, 2, by omega, by omega, by omega, rfl, by go_num, H.out.trans ((congrArg (auto t) HD.out).trans (auto_dash hd ‹_› ‹_›))⟩
          case measure => simp [intOf]; omega
        · go_ret
          exact ⟨ret_bool (H.out.trans ((congrArg (auto t) HD.out).trans (auto_no1 hd ‹_›))).symm, rfl⟩
        · go_ret
          exact ⟨ret_bool (H.out.trans ((congrArg (auto t) HD.out).trans (auto_no2 hd ‹_›))).symm, rfl⟩
      · have H2 : Hid (auto t (s.data.toList.drop k) = auto (stepD t) (s.data.toList.drop (k + 1))) := by
          show _ = _
          rw [HD.out, auto, hd, if_pos rfl]
        have h4t : t = 0 ∨ t = 1 ∨ t = 2 ∨ t = 3 := by omega
        rcases h4t with rfl | rfl | rfl | rfl
        all_goals
          go_wp2_with (go_at_call 9; refine (isDigit_any _ _).mono ?_; rintro e w' ⟨rfl, rfl⟩)
          go_round
          case rel => exact ⟨k + 1, stepD _, by omega, by omega, by simp [stepD], by simp [stepD], by go_num, H.out.trans H2.out⟩
          case measure => simp [intOf]; omega
    · go_wp2
      go_ret
      exact ⟨ret_bool (by rw [H.out, List.drop_of_length_le (by simp; omega), auto]; rw [Bool.eq_iff_iff]; simp; omega), rfl⟩

set_option maxHeartbeats 1000000 in
theorem auto_no (s : ByteArray) (w : World) (hs : s.size ≤ 1048576) (hp : Lib.hasPrefix s.data.toList [67, 86, 69, 45] = false) :
    Calls Tryd.prog 7 #[.string s] w fun e w' => e = .returned (.bool false) ∧ w' = w := by
  have HP : Hid (Lib.hasPrefix s.data.toList [67, 86, 69, 45] = false) := hp
  clear hp
  by_cases h4 : 4 ≤ s.size
  · by_cases h0 : (s[0].toNat : Int) = 67
    · by_cases h1 : (s[1].toNat : Int) = 86
      · by_cases h2 : (s[2].toNat : Int) = 69
        · have h3 : (((s[3].toNat : Int)) != 45) = true := by
            rw [bne_iff_ne]; intro h3
            have e0 : s[0].toNat = 67 := by omega
            have e1 : s[1].toNat = 86 := by omega
            have e2 : s[2].toNat = 69 := by omega
            have e3 : s[3].toNat = 45 := by omega
            have := HP.out
            rw [pre_eq s h4] at this
            simp [e0, e1, e2, e3] at this
          go_enter Tryd.func7, Tryd.ntmps7
          go_wp2
          go_ret
          exact ⟨rfl, rfl⟩
        · go_enter Tryd.func7, Tryd.ntmps7
          go_wp2
          go_ret
          exact ⟨rfl, rfl⟩
      · go_enter Tryd.func7, Tryd.ntmps7
        go_wp2
        go_ret
        exact ⟨rfl, rfl⟩
    · go_enter Tryd.func7, Tryd.ntmps7
      go_wp2
      go_ret
      exact ⟨rfl, rfl⟩
  · go_enter Tryd.func7, Tryd.ntmps7
    go_wp2
    go_ret
    exact ⟨rfl, rfl⟩

theorem auto_any (s : ByteArray) (w : World) (hs : s.size ≤ 1048576) :
    Calls Tryd.prog 7 #[.string s] w fun e w' => e = .returned (.bool (idAuto s.data.toList)) ∧ w' = w := by
  unfold idAuto
  cases hp : Lib.hasPrefix s.data.toList [67, 86, 69, 45]
  · exact auto_no s w hs hp
  · have h4 : 4 ≤ s.size := by
      by_cases h : 4 ≤ s.size
      · exact h
      · rw [pre_short s (by omega)] at hp; cases hp
    rw [pre_eq s h4] at hp
    simp at hp
    exact auto_yes s w hs h4 (by omega) (by omega) (by omega) (by omega)
end Go.Proofs.Qxb6600815aDoor
