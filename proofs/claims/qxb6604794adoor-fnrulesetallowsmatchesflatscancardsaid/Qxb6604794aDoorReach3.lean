/- zzRuleReaches at a nil key, and joined. -/
import Derived.Test.Qxb6604794aDoorReach2
namespace Go.Proofs.Qxb6604794aDoor
open Go.RowKit

theorem rr_empty (cl p : List UInt8) : rr cl p [] = p.isEmpty := by
  cases p with
  | nil => rw [rr_nil]; rfl
  | cons c t =>
    cases h : isW (c :: t)
    · rw [rr_plain h]; rfl
    · rw [rr_word h]
      cases cl with
      | nil => rfl
      | cons a b => rfl

set_option maxRecDepth 1000000 in
set_option maxHeartbeats 1000000 in
theorem reaches_nil (s cl : ByteArray) (w : World) (hs : s.size ≤ 1048576) (hcl : cl.size ≤ 1048576) :
    Calls Tryd.prog 14 #[.string s, .string cl, .slice none 0 0] w fun e w' => e = .returned (.bool (rr cl.data.toList s.data.toList [])) ∧ Below w.heap.size w w' := by
  rw [rr_empty]
  have cw := fun w => wordAt_any s 0 w hs (Nat.zero_le _)
  obtain ⟨q, hq⟩ : ∃ q, isW (s.data.toList.drop 0) = q := ⟨_, rfl⟩
  rw [hq] at cw
  clear hq
  by_cases h0 : 0 < s.size
  · have HF : s.data.toList.isEmpty = false := by
      rw [List.isEmpty_eq_false_iff]; intro e
      have h1 := congrArg List.length e
      rw [Array.length_toList] at h1
      have h2 : s.size = 0 := h1
      omega
    rw [HF]
    clear HF
    go_enter Tryd.func14, Tryd.ntmps14
    go_wp2_with fail
    go_loopw [7, 8] (fun i m wr => w = wr ∧ i = .int .i64 0 ∧ m = .int .i64 0) (fun _ _ _ => 0)
    case atStart => exact ⟨rfl, rfl, rfl⟩
    case round =>
      obtain ⟨rfl, rfl, rfl⟩ := hrel
      cases q
      · go_wp2_with (go_at_call 20; refine (cw _).mono ?_; rintro e w2 ⟨rfl, hw2⟩; rw [hw2]; clear hw2)
        go_quiet (fail)
        go_wp2_with fail
        go_ret
        exact ⟨rfl, below_drewN (Below.refl _ _) _⟩
      · by_cases he : cl.size = 0
        · have hei : cl.toList.isEmpty = true := by
            rw [ByteArray.toList_eq, List.isEmpty_iff]; exact List.eq_nil_of_length_eq_zero (by rw [Array.length_toList]; exact he)
          go_wp2_with (go_at_call 20; refine (cw _).mono ?_; rintro e w2 ⟨rfl, hw2⟩; rw [hw2]; clear hw2)
          go_ret
          exact ⟨rfl, Below.refl _ _⟩
        · have hei : cl.toList.isEmpty = false := by
            rw [ByteArray.toList_eq, List.isEmpty_eq_false_iff]; intro e
            have := congrArg List.length e
            rw [Array.length_toList] at this
            exact he this
          have hpos : 0 < cl.size := by omega
          go_wp2_with (go_at_call 20; refine (cw _).mono ?_; rintro e w2 ⟨rfl, hw2⟩; rw [hw2]; clear hw2)
          go_ret
          exact ⟨rfl, Below.refl _ _⟩
  · have HF : s.data.toList.isEmpty = true := by
      rw [List.isEmpty_iff]; exact List.eq_nil_of_length_eq_zero (by rw [Array.length_toList]; show s.size = 0; omega)
    rw [HF]
    clear HF
    go_enter Tryd.func14, Tryd.ntmps14
    go_wp2_with fail
    go_loopw [7, 8] (fun i m wr => w = wr ∧ i = .int .i64 0 ∧ m = .int .i64 0) (fun _ _ _ => 0)
    case atStart => exact ⟨rfl, rfl, rfl⟩
    case round =>
      obtain ⟨rfl, rfl, rfl⟩ := hrel
      go_wp2_with fail
      go_ret
      exact ⟨rfl, Below.refl _ _⟩

/-- zzRuleReaches -/
theorem reaches_any (s cl : ByteArray) (v : Value) (K : List UInt8) (w : World) (hs : s.size ≤ 1048576) (hcl : cl.size ≤ 1048576) (hN : K.length ≤ 1048576) (h : KeyV v K w) :
    Calls Tryd.prog 14 #[.string s, .string cl, v] w fun e w' => e = .returned (.bool (rr cl.data.toList s.data.toList K)) ∧ Below w.heap.size w w' := by
  rcases h with ⟨rfl, rfl⟩ | ⟨g, off, n, c, rfl, e1, _, e3⟩
  · exact reaches_nil s cl w hs hcl
  · exact reaches_some s cl g off n c K w hs hcl e1 (by omega) e3
end Go.Proofs.Qxb6604794aDoor
