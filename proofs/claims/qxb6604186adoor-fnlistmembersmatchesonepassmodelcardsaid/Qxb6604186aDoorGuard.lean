/-
  The two size guards, and the copy of the argument.
-/
import Derived.Test.Qxb6604186aDoorTrim
import Derived.Deep.OwnRows
namespace Go.Proofs.Qxb6604186aDoor
open Go.RowKit

/-- the slice 'a', n long, reads as the strings 'ls' -/
structure Strs (a : Option Addr) (n : Nat) (ls : List ByteArray) (w : World) : Prop where
  len : ls.length = n
  at_ : 0 < n → ∃ b off, a = some ⟨b, off, none⟩ ∧ b < w.heap.size ∧ ∀ j, j < n → w.cell? ⟨b, off + j, none⟩ = some (.string (ls.getD j ⟨#[]⟩))

/-- the bytes of all strings -/
def tot (ls : List ByteArray) : Nat := (ls.map ByteArray.size).sum
theorem tot_take {ls : List ByteArray} {k : Nat} (h : k < ls.length) : tot (ls.take (k + 1)) = tot (ls.take k) + (ls.getD k ⟨#[]⟩).size := by
  unfold tot
  rw [List.take_succ_eq_append_getElem h, List.getD_eq_getElem?_getD, List.getElem?_eq_getElem h, List.map_append, List.sum_append]
  simp only [List.map_cons, List.map_nil, List.sum_cons, List.sum_nil, Nat.add_zero, Option.getD_some]

/-- some answer, and if it is 'false' the bound holds -/
def Answer (P : Prop) (w : World) (e : Ending) (w' : World) : Prop := ∃ b, e = .returned (.bool b) ∧ (b = false → P) ∧ w' = w

set_option maxHeartbeats 1000000 in
theorem tooBig_any (a : Option Addr) (n c : Nat) (ls : List ByteArray) (w : World) (h : Strs a n ls w) :
    Calls Tryd.prog 5 #[.slice a n c] w fun e w' => Answer (16 * n + tot ls ≤ 1048576) w e w' := by
  by_cases hn : n ≤ 65536
  · go_enter Tryd.func5, Tryd.ntmps5
    go_wp2
    go_loop [3, 4] (fun tv i => ∃ k : Nat, k ≤ n ∧ i = .int .i64 k ∧ tv = .int .i64 (16 * n + tot (ls.take k) : Nat) ∧ 16 * n + tot (ls.take k) ≤ 1048576) (fun _ i => n - (RowKit.intOf i).toNat)
    case atStart => exact ⟨0, Nat.zero_le _, rfl, by go_num, by simp [tot]; omega⟩
    case round =>
      obtain ⟨k, hk, rfl, rfl, hT⟩ := hrel
      have HT := tot_take (ls := ls) (k := k)
      generalize hTk : tot (ls.take k) = T at *
      by_cases hlt : k < n
      · obtain ⟨b, off, ha, hb, hc⟩ := h.at_ (by omega)
        subst ha
        have hck := hc k hlt
        have hki : (k : Int) < (n : Int) := by omega
        have HT2 : Hid (tot (ls.take (k + 1)) = T + (ls.getD k ⟨#[]⟩).size) := HT (by rw [h.len]; exact hlt)
        generalize ls.getD k ⟨#[]⟩ = s at *
        clear hc HT hTk
        go_wp2
        · go_ret
          exact ⟨true, rfl, fun h => absurd h (by decide), rfl⟩
        · go_ret
          exact ⟨true, rfl, fun h => absurd h (by decide), rfl⟩
        · exact ⟨⟨k + 1, by omega, by go_num, by rw [HT2.out]; go_num, by rw [HT2.out]; omega⟩, by simp [RowKit.intOf]; omega⟩
      · have HF : Hid (tot ls = T) := by
          show _ = _
          rw [← hTk, List.take_of_length_le (by rw [h.len]; omega)]
        clear HT hTk
        go_wp2
        go_ret
        exact ⟨false, rfl, fun _ => by rw [HF.out]; exact hT, rfl⟩
  · go_enter Tryd.func5, Tryd.ntmps5
    go_wp2
    go_ret
    exact ⟨true, rfl, fun h => absurd h (by decide), rfl⟩

set_option maxHeartbeats 1000000 in
theorem bytes_any (a : Option Addr) (n c : Nat) (ls : List ByteArray) (w : World) (h : Strs a n ls w) :
    Calls Tryd.prog 4 #[.slice a n c] w fun e w' => Answer True w e w' := by
  by_cases hn : n ≤ 1048576
  · go_enter Tryd.func4, Tryd.ntmps4
    go_wp2
    go_loop [3, 4] (fun tv i => ∃ k T : Nat, k ≤ n ∧ i = .int .i64 k ∧ tv = .int .i64 T ∧ T ≤ 1048576) (fun _ i => n - (RowKit.intOf i).toNat)
    case atStart => exact ⟨0, n, Nat.zero_le _, rfl, by go_num, hn⟩
    case round =>
      obtain ⟨k, T, hk, rfl, rfl, hT⟩ := hrel
      by_cases hlt : k < n
      · obtain ⟨b, off, ha, hb, hc⟩ := h.at_ (by omega)
        subst ha
        have hck := hc k hlt
        have hki : (k : Int) < (n : Int) := by omega
        generalize ls.getD k ⟨#[]⟩ = s at *
        clear hc
        go_wp2
        · go_ret
          exact ⟨false, rfl, fun _ => trivial, rfl⟩
        · go_ret
          exact ⟨false, rfl, fun _ => trivial, rfl⟩
        · exact ⟨⟨k + 1, T + s.size, by omega, by go_num, by go_num, by omega⟩, by simp [RowKit.intOf]; omega⟩
      · go_wp2
        go_ret
        exact ⟨true, rfl, fun _ => trivial, rfl⟩
  · go_enter Tryd.func4, Tryd.ntmps4
    go_wp2
    go_ret
    exact ⟨false, rfl, fun _ => trivial, rfl⟩
end Go.Proofs.Qxb6604186aDoor
