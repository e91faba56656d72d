/-
  closingQuote, isSpTab, trimSpTab.
-/
import Derived.Test.Qxb6604186aDoorCut
namespace Go.Proofs.Qxb6604186aDoor
open Go.RowKit

/-- the quoted string that is read from 'a' on, seen from place k -/
def QAt (l : List UInt8) (a k : Nat) : Prop := l.take a ++ (inq (l.drop a)).1 = l.take k ++ (inq (l.drop k)).1 ∧ (inq (l.drop a)).2 = (inq (l.drop k)).2

theorem QAt.plain {s : ByteArray} {a k : Nat} (h : QAt s.data.toList a k) (hk : k < s.size) (h34 : ((s[k].toNat : Int) != 34) = true) (h92 : ((s[k].toNat : Int) == 92) = false) : QAt s.data.toList a (k + 1) := by
  have e34 : (s[k] == 34) = false := by rw [← b34]; simpa using h34
  unfold QAt at *
  rw [drop_at s k hk, inq_plain e34 (by rw [← b92]; exact h92)] at h
  rw [h.1, h.2, take_snoc s k hk]; simp
theorem QAt.esc {s : ByteArray} {a k : Nat} (h : QAt s.data.toList a k) (hk : k < s.size) (h34 : ((s[k].toNat : Int) != 34) = true) (h92 : ((s[k].toNat : Int) == 92) = true) : QAt s.data.toList a (k + 2) := by
  have e34 : (s[k] == 34) = false := by rw [← b34]; simpa using h34
  have e92 : (s[k] == 92) = true := by rw [← b92]; exact h92
  unfold QAt at *
  rw [drop_at s k hk] at h
  by_cases hk1 : k + 1 < s.size
  · rw [drop_at s (k + 1) hk1, inq_esc e34 e92] at h
    rw [h.1, h.2, take_snoc s (k + 1) hk1, take_snoc s k hk]; simp
  · rw [List.drop_of_length_le (i := k + 1) (by simp; omega), inq_one] at h
    have e : s.data.toList.take (k + 2) = s.data.toList.take k ++ [s[k]] := by
      rw [← take_snoc s k hk, List.take_of_length_le (by simp; omega), List.take_of_length_le (by simp; omega)]
    rw [h.1, h.2, List.drop_of_length_le (i := k + 2) (by simp; omega), e]; simp [inq]
theorem QAt.close {s : ByteArray} {a k : Nat} (h : QAt s.data.toList a k) (hk : k < s.size) (h34 : ((s[k].toNat : Int) != 34) = false) :
    s.data.toList.take a ++ (inq (s.data.toList.drop a)).1 = s.data.toList.take (k + 1) ∧ (inq (s.data.toList.drop a)).2 = s.data.toList.drop (k + 1) := by
  have e34 : (s[k] == 34) = true := by rw [← b34]; simpa using h34
  unfold QAt at *
  rw [drop_at s k hk, inq_close e34] at h
  rw [h.1, h.2, take_snoc s k hk]; simp
theorem QAt.open {s : ByteArray} {a k : Nat} (h : QAt s.data.toList a k) (hk : ¬ k < s.size) :
    s.data.toList.take a ++ (inq (s.data.toList.drop a)).1 = s.data.toList.take (k + 1) ∧ (inq (s.data.toList.drop a)).2 = s.data.toList.drop (k + 1) := by
  unfold QAt at *
  rw [List.drop_of_length_le (i := k) (by simp; omega), List.take_of_length_le (i := k) (by simp; omega)] at h
  rw [h.1, h.2, List.drop_of_length_le (i := k + 1) (by simp; omega), List.take_of_length_le (i := k + 1) (by simp; omega)]; simp [inq]

set_option maxHeartbeats 400000 in
theorem close_any (s : ByteArray) (j : Nat) (w : World) (hs : s.size ≤ 4194304) (hj : j < s.size) :
    Calls Tryd.prog 12 #[.string s, .int .i64 j] w fun e w' => ∃ k : Nat, e = .returned (.int .i64 k) ∧ j < k ∧ k ≤ s.size + 1 ∧
      (s.data.toList.take (j + 1) ++ (inq (s.data.toList.drop (j + 1))).1 = s.data.toList.take (k + 1) ∧ (inq (s.data.toList.drop (j + 1))).2 = s.data.toList.drop (k + 1)) ∧ w' = w := by
  go_enter Tryd.func12, Tryd.ntmps12
  go_wp2
  go_loop [5] (fun i => ∃ k : Nat, j < k ∧ k ≤ s.size + 1 ∧ i = .int .i64 k ∧ QAt s.data.toList (j + 1) k) (fun i => s.size + 1 - (RowKit.intOf i).toNat)
  case atStart => exact ⟨j + 1, by omega, by omega, by go_num, rfl, rfl⟩
  case round =>
    obtain ⟨k, hk1, hk, rfl, H⟩ := hrel
    have HK : Hid (QAt s.data.toList (j + 1) k) := H
    clear H
    by_cases hlt : k < s.size
    · have hi1 : (k : Int) < (s.size : Int) := by omega
      go_wp2
      · exact ⟨⟨k + 2, by omega, by omega, by go_num, HK.out.esc hlt ‹_› ‹_›⟩, by simp [RowKit.intOf]; omega⟩
      · exact ⟨⟨k + 1, by omega, by omega, by go_num, HK.out.plain hlt ‹_› ‹_›⟩, by simp [RowKit.intOf]; omega⟩
      · go_ret
        exact ⟨k, rfl, hk1, hk, HK.out.close hlt ‹_›, rfl⟩
    · go_wp2
      go_ret
      exact ⟨k, rfl, hk1, hk, HK.out.open hlt, rfl⟩

def sp (c : UInt8) : Bool := c == 32 || c == 9
theorem ret_bool {a b : Bool} (h : a = b) : Ending.returned (.bool a) = .returned (.bool b) := by rw [h]

theorem b32 (c : UInt8) : ((c.toNat : Int) == 32) = (c == 32) := byte_eq (n := 32) (by decide)
theorem b9 (c : UInt8) : ((c.toNat : Int) == 9) = (c == 9) := byte_eq (n := 9) (by decide)

set_option maxHeartbeats 400000 in
theorem isSp_any (c : UInt8) (w : World) :
    Calls Tryd.prog 15 #[.int .u8 c.toNat] w fun e w' => e = .returned (.bool (sp c)) ∧ w' = w := by
  go_enter Tryd.func15, Tryd.ntmps15
  go_wp2
  · go_ret
    exact ⟨ret_bool (by unfold sp; rw [← b32, ‹(c.toNat : Int) = 32›]; rfl), rfl⟩
  · go_ret
    exact ⟨ret_bool (by unfold sp; rw [← b32, ← b9]), rfl⟩

theorem sp_mem (c : UInt8) : ([32, 9] : List UInt8).contains c = sp c := by
  simp only [sp, List.contains, List.elem]
  cases c == 32 <;> cases c == 9 <;> rfl

theorem dw_app {p : UInt8 → Bool} {a b : List UInt8} (h : a.all p = true) : (a ++ b).dropWhile p = b.dropWhile p := by
  induction a with
  | nil => rfl
  | cons c r ih =>
    simp only [List.all_cons, Bool.and_eq_true] at h
    rw [List.cons_append, List.dropWhile_cons, if_pos h.1, ih h.2]

/-- spaces at both ends, and none at either end of what is between -/
theorem trim_mid {a b c : List UInt8} (ha : a.all sp = true) (hc : c.all sp = true) (hb : b = [] ∨ ((∃ x r, b = x :: r ∧ sp x = false) ∧ ∃ y r, b = r ++ [y] ∧ sp y = false)) : trim (a ++ b ++ c) = b := by
  unfold trim Lib.trimS Lib.trimLeftS Lib.trimRightS
  simp only [sp_mem]
  rcases hb with rfl | ⟨⟨x, r, rfl, hx⟩, y, r', hy', hy⟩
  · have : (a ++ [] ++ c).reverse.dropWhile (fun x => sp x) = [] := by
      have h : (a ++ [] ++ c).reverse.all sp = true := by simp only [List.append_nil, List.reverse_append, List.all_append, List.all_reverse, ha, hc, Bool.and_self]
      have := dw_app (p := sp) (a := (a ++ [] ++ c).reverse) (b := []) h
      simpa using this
    rw [this]; rfl
  · have h1 : (a ++ (x :: r) ++ c).reverse.dropWhile (fun x => sp x) = (a ++ (x :: r)).reverse := by
      rw [List.reverse_append, dw_app (by simpa using hc), hy', ← List.append_assoc, List.reverse_append]
      show List.dropWhile _ ([y] ++ (a ++ r').reverse) = _
      simp [hy]
    rw [h1, List.reverse_reverse, dw_app ha, List.dropWhile_cons, if_neg (by simp [hx])]

theorem all_take_snoc {s : ByteArray} {k : Nat} (h : (s.data.toList.take k).all sp = true) (hk : k < s.size) (hc : sp s[k] = true) : (s.data.toList.take (k + 1)).all sp = true := by
  rw [take_snoc s k hk, List.all_append, h]; simp [hc]
theorem all_drop_pre {s : ByteArray} {k : Nat} (h : (s.data.toList.drop (k + 1)).all sp = true) (hk : k < s.size) (hc : sp s[k] = true) : (s.data.toList.drop k).all sp = true := by
  rw [drop_at s k hk, List.all_cons, h, hc]; rfl

theorem ret_str {a b : ByteArray} (h : a = b) : Ending.returned (.string a) = .returned (.string b) := by rw [h]

/-- the walk's end: s[i:e] is the trimmed text -/
theorem trim_fin {s : ByteArray} {i e : Nat} (hie : i ≤ e) (he : e ≤ s.size) (h1 : (s.data.toList.take i).all sp = true) (h2 : (s.data.toList.drop e).all sp = true) (hi : i < s.size → ∃ h : i < s.size, sp s[i] = false)
    (hl : i < e → ∃ h : e - 1 < s.size, sp s[e - 1] = false) : s.extract i e = ⟨(trim s.data.toList).toArray⟩ := by
  have hsplit : s.data.toList = s.data.toList.take i ++ (s.data.toList.take e).drop i ++ s.data.toList.drop e := by
    have : s.data.toList.take i = (s.data.toList.take e).take i := by rw [List.take_take, Nat.min_eq_left hie]
    rw [this, List.take_append_drop, List.take_append_drop]
  have ht : trim s.data.toList = (s.data.toList.take e).drop i := by
    conv => lhs; rw [hsplit]
    refine trim_mid h1 h2 ?_
    by_cases hlt : i < e
    · right
      obtain ⟨g1, g2⟩ := hi (by omega)
      obtain ⟨g3, g4⟩ := hl hlt
      refine ⟨⟨s[i], (s.data.toList.take e).drop (i + 1), ?_, g2⟩, ⟨s[e - 1], (s.data.toList.take (e - 1)).drop i, ?_, g4⟩⟩
      · rw [List.drop_eq_getElem_cons (by simp; omega)]; congr 1; simp; rfl
      · have e1 : e = e - 1 + 1 := by omega
        conv => lhs; rw [e1]
        rw [take_snoc s (e - 1) g3, List.drop_append_of_le_length (by simp; omega)]
    · left
      rw [List.drop_of_length_le (by simp; omega)]
  rw [ht, ext_mid]

set_option maxHeartbeats 1000000 in
theorem trim_any (s : ByteArray) (w : World) (hs : s.size ≤ 4194304) :
    Calls Tryd.prog 11 #[.string s] w fun e w' => e = .returned (.string ⟨(trim s.data.toList).toArray⟩) ∧ w' = w := by
  go_enter Tryd.func11, Tryd.ntmps11
  go_wp2
  go_loop [3] (fun i => ∃ k : Nat, k ≤ s.size ∧ i = .int .i64 k ∧ Hid ((s.data.toList.take k).all sp = true)) (fun i => s.size - (RowKit.intOf i).toNat)
  case atStart => exact ⟨0, Nat.zero_le _, rfl, rfl⟩
  case round =>
    obtain ⟨k, hk, rfl, H⟩ := hrel
    by_cases hgo : ∃ h : k < s.size, sp s[k] = true
    · obtain ⟨hlt, hsp⟩ := hgo
      have hi1 : (k : Int) < (s.size : Int) := by omega
      go_wp2_with (go_at_call 15; refine (isSp_any _ _).mono ?_; rintro e w' ⟨rfl, rfl⟩)
      exact ⟨⟨k + 1, by omega, by go_num, all_take_snoc H.out hlt hsp⟩, by simp [RowKit.intOf]; omega⟩
    · have HS : Hid (k < s.size → ∃ h : k < s.size, sp s[k] = false) := fun h => ⟨h, by cases hc : sp s[k] with | false => rfl | true => exact absurd ⟨h, hc⟩ hgo⟩
      by_cases hlt : k < s.size
      · have hi1 : (k : Int) < (s.size : Int) := by omega
        have hsp : sp s[k] = false := (HS.out hlt).2
        clear hgo
        go_wp2_with (go_at_call 15; refine (isSp_any _ _).mono ?_; rintro e w' ⟨rfl, rfl⟩)
        go_loop [4] (fun ev => ∃ e : Nat, k ≤ e ∧ e ≤ s.size ∧ ev = .int .i64 e ∧ Hid ((s.data.toList.drop e).all sp = true)) (fun ev => (RowKit.intOf ev).toNat)
        case atStart => exact ⟨s.size, hk, Nat.le_refl _, rfl, by show _ = _; rw [List.drop_of_length_le (by simp)]; rfl⟩
        case round =>
          obtain ⟨e, he1, he2, rfl, HE⟩ := hrel
          by_cases hke : k < e
          · obtain ⟨d, rfl⟩ : ∃ d, e = d + 1 := ⟨e - 1, by omega⟩
            have hd : d < s.size := by omega
            have hdi : (d : Int) < (s.size : Int) := by omega
            cases hsd : sp s[d]
            · go_wp2_with (go_at_call 15; refine (isSp_any _ _).mono ?_; rintro e w' ⟨rfl, rfl⟩)
              go_ret
              exact ⟨ret_str (trim_fin he1 he2 H.out HE.out HS.out (fun _ => ⟨hd, hsd⟩)), rfl⟩
            · go_wp2_with (go_at_call 15; refine (isSp_any _ _).mono ?_; rintro e w' ⟨rfl, rfl⟩)
              exact ⟨⟨d, by omega, by omega, rfl, all_drop_pre HE.out hd hsd⟩, by simp [RowKit.intOf]⟩
          · go_wp2_with fail
            go_ret
            exact ⟨ret_str (trim_fin he1 he2 H.out HE.out HS.out (fun h => absurd h hke)), rfl⟩
      · clear hgo
        go_wp2_with fail
        go_loop [4] (fun ev => ∃ e : Nat, k ≤ e ∧ e ≤ s.size ∧ ev = .int .i64 e ∧ Hid ((s.data.toList.drop e).all sp = true)) (fun ev => (RowKit.intOf ev).toNat)
        case atStart => exact ⟨s.size, hk, Nat.le_refl _, rfl, by show _ = _; rw [List.drop_of_length_le (by simp)]; rfl⟩
        case round =>
          obtain ⟨e, he1, he2, rfl, HE⟩ := hrel
          have hke : ¬ k < e := by omega
          go_wp2_with fail
          go_ret
          exact ⟨ret_str (trim_fin he1 he2 H.out HE.out HS.out (fun h => absurd h hke)), rfl⟩
end Go.Proofs.Qxb6604186aDoor
