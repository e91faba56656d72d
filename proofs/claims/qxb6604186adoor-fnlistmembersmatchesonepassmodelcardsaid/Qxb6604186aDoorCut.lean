/-
  cutListMember, closingQuote.
-/
import Derived.Test.Qxb6604186aDoorRows
import Derived.Test.Qxb6604186aDoorPlain
import Derived.WalkKit
import Derived.WalkSpells
import Derived.WalkLawsBesides
import Derived.Deep.QuietTactic
import Derived.BigQuiet
import Derived.Lib.IndexBytes
import Derived.Lib.SmallJoins
namespace Go.Proofs.Qxb6604186aDoor
open Go.RowKit

theorem drop_at (s : ByteArray) (k : Nat) (h : k < s.size) : s.data.toList.drop k = s[k] :: s.data.toList.drop (k + 1) := by
  rw [List.drop_eq_getElem_cons (by simpa using h)]; rfl
theorem take_snoc (s : ByteArray) (k : Nat) (h : k < s.size) : s.data.toList.take (k + 1) = s.data.toList.take k ++ [s[k]] := by
  rw [List.take_succ_eq_append_getElem (by simpa using h)]; rfl
theorem ext_mid (s : ByteArray) (a b : Nat) : s.extract a b = ⟨((s.data.toList.take b).drop a).toArray⟩ := by
  have := Go.Lib.extract_data s a b
  rw [← List.drop_take] at this
  rw [← this, Go.Joins.bytes_eta]
theorem ext_end (s : ByteArray) (k : Nat) : s.extract k s.size = ⟨(s.data.toList.drop k).toArray⟩ := by
  have := Go.Lib.extract_to_end s k
  rw [← this, Go.Joins.bytes_eta]

theorem byte_eq {c : UInt8} {n : Nat} (hn : n < 256) : ((c.toNat : Int) == (n : Int)) = (c == UInt8.ofNat n) := by
  rw [Bool.eq_iff_iff, beq_iff_eq, beq_iff_eq, ← UInt8.toNat_inj, UInt8.toNat_ofNat']
  omega

theorem ret_ss {a b c d : ByteArray} (h : a = c) (h2 : b = d) : Ending.returned (.tuple #[.string a, .string b]) = .returned (.tuple #[.string c, .string d]) := by rw [h, h2]

/-- the cut of the whole, seen from place i -/
def CutAt (l : List UInt8) (q : Bool) (i : Nat) : Prop := cutM false l = (l.take i ++ (cutM q (l.drop i)).1, (cutM q (l.drop i)).2)

theorem b34 (c : UInt8) : ((c.toNat : Int) == 34) = (c == 34) := byte_eq (n := 34) (by decide)
theorem b92 (c : UInt8) : ((c.toNat : Int) == 92) = (c == 92) := byte_eq (n := 92) (by decide)
theorem b44 (c : UInt8) : ((c.toNat : Int) == 44) = (c == 44) := byte_eq (n := 44) (by decide)
theorem y44 {c : UInt8} (h : (c.toNat : Int) = 44) : (c == 44) = true := by rw [← b44, h]; rfl
theorem n44 {c : UInt8} (h : ¬ (c.toNat : Int) = 44) : (c == 44) = false := by rw [← b44]; simpa using h

theorem CutAt.go {s : ByteArray} {q q' : Bool} {k : Nat} (h : CutAt s.data.toList q k) (hk : k < s.size)
    (hs : cutM q (s[k] :: s.data.toList.drop (k + 1)) = (s[k] :: (cutM q' (s.data.toList.drop (k + 1))).1, (cutM q' (s.data.toList.drop (k + 1))).2)) : CutAt s.data.toList q' (k + 1) := by
  unfold CutAt at *
  rw [drop_at s k hk, hs] at h
  rw [h, take_snoc s k hk]; simp

theorem CutAt.esc {s : ByteArray} {k : Nat} (h : CutAt s.data.toList true k) (hk : k < s.size) (hc : ((s[k].toNat : Int) == 92) = true) : CutAt s.data.toList true (k + 1 + 1) := by
  have h2 : (true && s[k] == 92) = true := by rw [b92] at hc; simpa using hc
  unfold CutAt at *
  rw [drop_at s k hk] at h
  by_cases hk1 : k + 1 < s.size
  · rw [drop_at s (k + 1) hk1, cutM_esc h2] at h
    rw [h, take_snoc s (k + 1) hk1, take_snoc s k hk]; simp
  · rw [List.drop_of_length_le (by simp; omega), cutM_esc1 h2] at h
    rw [h, List.drop_of_length_le (by simp; omega), List.take_of_length_le (i := k + 1 + 1) (by simp; omega)]
    have : s.data.toList = s.data.toList.take k ++ [s[k]] := by
      rw [← take_snoc s k hk, List.take_of_length_le (by simp; omega)]
    rw [← this]; simp [cutM]

theorem CutAt.comma {s : ByteArray} {k : Nat} (h : CutAt s.data.toList false k) (hk : k < s.size) (h34 : ((s[k].toNat : Int) == 34) = false) (hc : (s[k].toNat : Int) = 44) :
    cutM false s.data.toList = (s.data.toList.take k, s.data.toList.drop (k + 1)) := by
  unfold CutAt at h
  rw [drop_at s k hk, cutM_comma (by simp) (by rw [← b34]; exact h34) (by rw [y44 hc]; rfl)] at h
  rw [h]; simp

theorem CutAt.fin {s : ByteArray} {q : Bool} {k : Nat} (h : CutAt s.data.toList q k) (hk : ¬ k < s.size) : cutM false s.data.toList = (s.data.toList, []) := by
  unfold CutAt at h
  rw [List.drop_of_length_le (by simp; omega), List.take_of_length_le (by simp; omega)] at h
  rw [h]; simp [cutM]

set_option maxHeartbeats 1000000 in
theorem cut_any (s : ByteArray) (w : World) (hs : s.size ≤ 4194304) :
    Calls Tryd.prog 13 #[.string s] w fun e w' => e = .returned (.tuple #[.string ⟨(cutM false s.data.toList).1.toArray⟩, .string ⟨(cutM false s.data.toList).2.toArray⟩]) ∧ ∃ n, w' = w.drewN n := by
  go_enter Tryd.func13, Tryd.ntmps13
  go_wp2
  go_loop [4, 5] (fun qv i => ∃ (q : Bool) (k : Nat), k ≤ s.size + 1 ∧ qv = .bool q ∧ i = .int .i64 k ∧ CutAt s.data.toList q k) (fun _ i => s.size + 1 - (RowKit.intOf i).toNat)
  case atStart => exact ⟨false, 0, by omega, rfl, rfl, by simp [CutAt]⟩
  case round =>
    obtain ⟨q, k, hk, rfl, rfl, H⟩ := hrel
    by_cases hlt : k < s.size
    · have hi1 : (k : Int) < (s.size : Int) := by omega
      have HK : Hid (CutAt s.data.toList q k) := H
      clear H
      cases q
      · go_wp2
        · exact ⟨⟨true, k + 1, by omega, rfl, by go_num, HK.out.go hlt (cutM_quote (by simp) (by rw [← b34]; assumption))⟩, by simp [RowKit.intOf]; omega⟩
        · go_quiet (fail)
          go_wp2
          go_ret2
          have hf := HK.out.comma hlt ‹_› ‹_›
          exact ⟨ret_ss (by rw [hf]; exact (ext_mid s 0 k).trans (by simp)) (by rw [hf]; exact ext_end s (k + 1)), nq, rfl⟩
        · exact ⟨⟨false, k + 1, by omega, rfl, by go_num, HK.out.go hlt (cutM_plain (by simp) (by rw [← b34]; assumption) (by rw [n44 ‹_›]; rfl))⟩, by simp [RowKit.intOf]; omega⟩
      · go_wp2
        · exact ⟨⟨true, k + 1 + 1, by omega, rfl, by go_num, HK.out.esc hlt ‹_›⟩, by simp [RowKit.intOf]; omega⟩
        · exact ⟨⟨false, k + 1, by omega, rfl, by go_num, HK.out.go hlt (cutM_quote (by rw [← b92]; simpa using ‹((s[k].toNat : Int) == 92) = false›) (by rw [← b34]; assumption))⟩, by simp [RowKit.intOf]; omega⟩
        · exact ⟨⟨true, k + 1, by omega, rfl, by go_num, HK.out.go hlt (cutM_plain (by rw [← b92]; simpa using ‹((s[k].toNat : Int) == 92) = false›) (by rw [← b34]; assumption) (by simp))⟩, by simp [RowKit.intOf]; omega⟩
        · exact ⟨⟨true, k + 1, by omega, rfl, by go_num, HK.out.go hlt (cutM_plain (by rw [← b92]; simpa using ‹((s[k].toNat : Int) == 92) = false›) (by rw [← b34]; assumption) (by simp))⟩, by simp [RowKit.intOf]; omega⟩
    · go_wp2
      go_ret2
      have hf := H.fin hlt
      exact ⟨ret_ss (by rw [hf, Go.Joins.bytes_eta]) (by rw [hf]), 0, rfl⟩
end Go.Proofs.Qxb6604186aDoor
