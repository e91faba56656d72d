/- The leaves of ParseDecimal's road: the prefix, the cut at the point, allDigits, decSkipDigits. -/
import Derived.Test.Qxb6604011aDoorModel
import Derived.Test.Qxb6604011aDoorAny
namespace Go.Proofs.Qxb6604011aDoor
open Go.RowKit Go.Shelf Go.Lib

theorem hasPre (s p : ByteArray) (w : World) :
    Calls Tryd.prog 23 #[.string s, .string p] w fun e w' => e = .returned (.bool (Lib.hasPrefix s.data.toList p.data.toList)) ∧ w' = w :=
  Any.strings_HasPrefix Tryd.lays99 s p w

/-- what strings.Cut reads: MaxLen -/
def MaxL (w : World) : Prop := ∃ m : Int, w.cell? ⟨0, 0, none⟩ = some (.int .i64 m)

theorem cutDot (s : ByteArray) (w : World) (hm : MaxL w) (hs : s.size < 4294967281) :
    Calls Tryd.prog 26 #[.string s, .string ⟨#[46]⟩] w fun e w' => e = .returned (.tuple #[.string ⟨(Lib.cut s.data.toList [46]).1.toArray⟩, .string ⟨(Lib.cut s.data.toList [46]).2.1.toArray⟩, .bool (Lib.cut s.data.toList [46]).2.2]) ∧ ∃ n, w' = w.drewN n :=
  let ⟨m, hm⟩ := hm
  Any.strings_Cut { Tryd.laysM145 with } s ⟨#[46]⟩ m w hs hm

theorem trimRZeros (s : ByteArray) (w : World) (hs : s.size ≤ 9223372036854775807) :
    Calls Tryd.prog 29 #[.string s, .string ⟨#[48]⟩] w fun e w' => e = .returned (.string ⟨(trimRightB s.data.toList 48).toArray⟩) ∧ w' = w :=
  Any.strings_TrimRight_one Tryd.lays162 s 48 (by decide) w hs

/-- allDigits -/
def allD (l : List UInt8) : Bool := l.all dg && !l.isEmpty

set_option maxHeartbeats 400000 in
theorem allDigits_any (s : ByteArray) (w : World) (hs : s.size ≤ 1048577) :
    Calls Tryd.prog 27 #[.string s] w fun e w' => e = .returned (.bool (allD s.data.toList)) ∧ w' = w := by
  go_enter Tryd.func27, Tryd.ntmps27
  go_wp2
  go_loop [3] (fun i => ∃ k : Nat, k ≤ s.size ∧ i = .int .i64 k ∧ Hid ((s.data.toList.take k).all dg = true)) (fun i => s.size - (RowKit.intOf i).toNat)
  case atStart => exact ⟨0, Nat.zero_le _, rfl, rfl⟩
  case round =>
    obtain ⟨k, hk, rfl, H⟩ := hrel
    by_cases hlt : k < s.size
    · by_cases h1 : 48 ≤ s[k].toNat
      · by_cases h2 : s[k].toNat ≤ 57
        · have hd : Hid (dg s[k] = true) := dg_iff.2 ⟨h1, h2⟩
          go_wp2
          go_round
          case rel => exact ⟨k + 1, by omega, by go_num, by show _ = _; rw [take_snoc s k hlt, List.all_append, H.out]; simp [hd.out]⟩
          case measure => simp [RowKit.intOf]; omega
        · have hd : Hid (dg s[k] = false) := by show _ = _; simp [dg]; omega
          go_wp2
          go_ret
          exact ⟨ret_bool (by unfold allD; rw [all_not hlt hd.out]; rfl), rfl⟩
      · have hd : Hid (dg s[k] = false) := by show _ = _; simp [dg]; omega
        go_wp2
        go_ret
        exact ⟨ret_bool (by unfold allD; rw [all_not hlt hd.out]; rfl), rfl⟩
    · have HA : Hid (s.data.toList.all dg = true) := by
        show _ = _
        have := H.out
        rwa [List.take_of_length_le (by simp; omega)] at this
      go_wp2
      go_ret
      exact ⟨ret_bool (by unfold allD; rw [HA.out, Lib.toList_data]; rfl), rfl⟩

/-- decSkipDigits -/
def skip (l : List UInt8) (i : Nat) : Nat := i + ((l.drop i).takeWhile dg).length

theorem skip_yes {s : ByteArray} {k : Nat} (h : k < s.size) (hd : dg s[k] = true) : skip s.data.toList k = skip s.data.toList (k + 1) := by
  unfold skip; rw [drop_at s k h, List.takeWhile_cons, if_pos hd, List.length_cons]; omega
theorem skip_no {s : ByteArray} {k : Nat} (h : k < s.size) (hd : dg s[k] = false) : skip s.data.toList k = k := by
  unfold skip; rw [drop_at s k h, List.takeWhile_cons, if_neg (by rw [hd]; exact Bool.false_ne_true), List.length_nil]; omega
theorem skip_end {s : ByteArray} {k : Nat} (h : s.size ≤ k) : skip s.data.toList k = k := by
  unfold skip; rw [List.drop_of_length_le (by simp; omega)]; rfl

set_option maxHeartbeats 400000 in
theorem skip_any (s : ByteArray) (i0 : Nat) (w : World) (hs : s.size ≤ 1048577) (h0 : i0 ≤ s.size) :
    Calls Tryd.prog 15 #[.string s, .int .i64 i0] w fun e w' => e = .returned (.int .i64 (skip s.data.toList i0)) ∧ w' = w := by
  go_enter Tryd.func15, Tryd.ntmps15
  go_wp2_with fail
  go_loop [1] (fun i => ∃ k : Nat, k ≤ s.size ∧ i = .int .i64 k ∧ Hid (skip s.data.toList i0 = skip s.data.toList k)) (fun i => s.size - (RowKit.intOf i).toNat)
  case atStart => exact ⟨i0, h0, rfl, rfl⟩
  case round =>
    obtain ⟨k, hk, rfl, H⟩ := hrel
    by_cases hlt : k < s.size
    · cases hd : dg s[k]
      · have HS : Hid (skip s.data.toList k = k) := skip_no hlt hd
        go_wp2_with (go_at_call 17; refine (isDigit_any _ _).mono ?_; rintro e w' ⟨rfl, rfl⟩)
        go_ret
        exact ⟨ret_int (by rw [H.out, HS.out]), rfl⟩
      · have HS : Hid (skip s.data.toList k = skip s.data.toList (k + 1)) := skip_yes hlt hd
        go_wp2_with (go_at_call 17; refine (isDigit_any _ _).mono ?_; rintro e w' ⟨rfl, rfl⟩)
        go_round
        case rel => exact ⟨k + 1, by omega, by go_num, by show _ = _; rw [H.out, HS.out]⟩
        case measure => simp [RowKit.intOf]; omega
    · have HS : Hid (skip s.data.toList k = k) := skip_end (by omega)
      go_wp2_with fail
      go_ret
      exact ⟨ret_int (by rw [H.out, HS.out]), rfl⟩
end Go.Proofs.Qxb6604011aDoor
