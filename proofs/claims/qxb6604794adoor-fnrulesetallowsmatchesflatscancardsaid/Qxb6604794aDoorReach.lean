/- zzWordAt, zzRuleReaches. -/
import Derived.Test.Qxb6604794aDoorCov
namespace Go.Proofs.Qxb6604794aDoor
open Go.RowKit

def word : List UInt8 := [123, 99, 108, 105, 101, 110, 116, 125]

/-- the word stands at the head of p -/
def isW (p : List UInt8) : Bool := word.isPrefixOf p
theorem isW_short {p : List UInt8} (h : p.length < 8) : isW p = false := by
  unfold isW
  rw [← Bool.not_eq_true, List.isPrefixOf_iff_prefix]
  intro h1
  have := h1.length_le
  have e : word.length = 8 := rfl
  omega
theorem isW_take (p : List UInt8) : (p.take 8 == word) = isW p := by
  unfold isW
  rw [Bool.eq_iff_iff, List.isPrefixOf_iff_prefix, List.prefix_iff_eq_take, beq_iff_eq]
  exact eq_comm

theorem ext_list (s : ByteArray) (a b : Nat) : (s.extract a b).data.toList = (s.data.toList.take b).drop a := by
  rw [List.drop_take]; simp [ByteArray.data_extract]

set_option maxHeartbeats 400000 in
theorem wordAt_any (s : ByteArray) (j : Nat) (w : World) (hs : s.size ≤ 1048576) (hj : j ≤ s.size) :
    Calls Tryd.prog 20 #[.string s, .int .i64 j] w fun e w' => e = .returned (.bool (isW (s.data.toList.drop j))) ∧ w' = w := by
  obtain ⟨R, hR⟩ : ∃ R, isW (s.data.toList.drop j) = R := ⟨_, rfl⟩
  rw [hR]
  have HR : Hid (isW (s.data.toList.drop j) = R) := hR
  clear hR
  by_cases h : j + 8 ≤ s.size
  · go_enter Tryd.func20, Tryd.ntmps20
    go_wp2
    go_ret
    refine ⟨ret_bool ?_, rfl⟩
    rw [← HR.out, ← isW_take, ByteArray.toList_eq, ext_list, List.drop_take, Nat.add_sub_cancel_left]
    rfl
  · have HF : Hid (isW (s.data.toList.drop j) = false) := isW_short (by rw [List.length_drop, Array.length_toList]; show s.size - j < 8; omega)
    go_enter Tryd.func20, Tryd.ntmps20
    go_wp2
    go_ret
    exact ⟨ret_bool (by rw [← HR.out, HF.out]), rfl⟩

/-- the prefix, with the client put for each word, begins the bytes k -/
def rr (cl : List UInt8) : List UInt8 → List UInt8 → Bool
  | [], _ => true
  | c :: t, k =>
    if isW (c :: t) then !cl.isEmpty && (cl.isPrefixOf k && rr cl (t.drop 7) (k.drop cl.length))
    else k.head? == some c && rr cl t (k.drop 1)
termination_by p => p.length
decreasing_by
  · simp; omega
  · simp

theorem rr_nil (cl k : List UInt8) : rr cl [] k = true := by rw [rr]
theorem rr_word {cl p k : List UInt8} (h : isW p = true) : rr cl p k = (!cl.isEmpty && (cl.isPrefixOf k && rr cl (p.drop 8) (k.drop cl.length))) := by
  cases p with
  | nil => exact absurd h (by decide)
  | cons c t => rw [rr, if_pos h]; rfl
theorem rr_plain {cl t k : List UInt8} {c : UInt8} (h : isW (c :: t) = false) : rr cl (c :: t) k = (k.head? == some c && rr cl t (k.drop 1)) := by
  rw [rr, if_neg (by rw [h]; exact Bool.false_ne_true)]
theorem isW_len {p : List UInt8} (h : isW p = true) : 8 ≤ p.length := by
  rcases Nat.lt_or_ge p.length 8 with h1 | h1
  · rw [isW_short h1] at h; cases h
  · exact h1
theorem drop_at (s : ByteArray) (k : Nat) (h : k < s.size) : s.data.toList.drop k = s[k] :: s.data.toList.drop (k + 1) := by
  rw [List.drop_eq_getElem_cons (by simpa using h)]; rfl
end Go.Proofs.Qxb6604794aDoor
