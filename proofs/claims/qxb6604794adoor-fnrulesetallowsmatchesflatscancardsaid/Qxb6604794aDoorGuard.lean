/- The two size guards. -/
import Derived.Test.Qxb6604794aDoorSet
namespace Go.Proofs.Qxb6604794aDoor
open Go.RowKit

/-- the slice 'a', n long, reads as the rules rs -/
structure Ruls (a : Option Addr) (n : Nat) (rs : List (Nat × ByteArray)) (w : World) : Prop where
  len : rs.length = n
  at_ : 0 < n → ∃ b off, a = some ⟨b, off, none⟩ ∧ b < w.heap.size ∧ ∀ j, j < n → w.cell? ⟨b, off + j * 2, none⟩ = some (.int .u8 (rs.getD j (0, ⟨#[]⟩)).1) ∧ w.cell? ⟨b, off + j * 2 + 1, none⟩ = some (.string (rs.getD j (0, ⟨#[]⟩)).2)
theorem Ruls.below {a : Option Addr} {n : Nat} {rs : List (Nat × ByteArray)} {w w' : World} (h : Ruls a n rs w) (hb : Below w.heap.size w w') : Ruls a n rs w' :=
  ⟨h.len, fun hn => by
    obtain ⟨b, off, h1, h2, h3⟩ := h.at_ hn
    exact ⟨b, off, h1, Nat.lt_of_lt_of_le h2 hb.size, fun j hj => ⟨(hb.cell (p := ⟨b, off + j * 2, none⟩) h2).trans (h3 j hj).1, (hb.cell (p := ⟨b, off + j * 2 + 1, none⟩) h2).trans (h3 j hj).2⟩⟩⟩

/-- the bytes of all prefixes -/
def tot (rs : List (Nat × ByteArray)) : Nat := (rs.map fun ru => ru.2.size).sum
theorem tot_take {rs : List (Nat × ByteArray)} {k : Nat} (h : k < rs.length) : tot (rs.take (k + 1)) = tot (rs.take k) + (rs.getD k (0, ⟨#[]⟩)).2.size := by
  unfold tot
  rw [List.take_succ_eq_append_getElem h, List.getD_eq_getElem?_getD, List.getElem?_eq_getElem h, List.map_append, List.sum_append]
  simp only [List.map_cons, List.map_nil, List.sum_cons, List.sum_nil, Nat.add_zero, Option.getD_some]

/-- some answer, and if it is 'false' the bound holds -/
def Answer (P : Prop) (w : World) (e : Ending) (w' : World) : Prop := ∃ b, e = .returned (.bool b) ∧ (b = false → P) ∧ w' = w

set_option maxRecDepth 10000 in
set_option maxHeartbeats 2000000 in
theorem tooBig_any (a : Option Addr) (n c : Nat) (rs : List (Nat × ByteArray)) (cl : ByteArray) (ka : Option Addr) (kn kc : Nat) (w : World) (h : Ruls a n rs w) :
    Calls Tryd.prog 7 #[.slice a n c, .string cl, .slice ka kn kc, .slice none 0 0] w fun e w' => Answer (24 * n + cl.size + kn + tot rs ≤ 1048576) w e w' := by
  by_cases hn : n ≤ 65536
  · by_cases hc : cl.size ≤ 1048576
    · by_cases hk : kn ≤ 1048576
      · go_enter Tryd.func7, Tryd.ntmps7
        go_wp2
        · go_ret
          exact ⟨true, rfl, fun h => absurd h (by decide), rfl⟩
        · go_loop [9, 10] (fun tv i => ∃ k : Nat, k ≤ n ∧ i = .int .i64 k ∧ tv = .int .i64 (24 * n + cl.size + kn + tot (rs.take k) : Nat) ∧ 24 * n + cl.size + kn + tot (rs.take k) ≤ 1048576) (fun _ i => n - (RowKit.intOf i).toNat)
          case atStart => exact ⟨0, Nat.zero_le _, rfl, by go_num, by simp [tot]; omega⟩
          case round =>
            obtain ⟨k, hk, rfl, rfl, hT⟩ := hrel
            have HT := tot_take (rs := rs) (k := k)
            generalize hTk : tot (rs.take k) = T at *
            by_cases hlt : k < n
            · obtain ⟨b, off, ha, hb, hc⟩ := h.at_ (by omega)
              subst ha
              have hck := (hc k hlt).2
              have hki : (k : Int) < (n : Int) := by omega
              have HT2 : Hid (tot (rs.take (k + 1)) = T + (rs.getD k (0, ⟨#[]⟩)).2.size) := HT (by rw [h.len]; exact hlt)
              generalize (rs.getD k (0, ⟨#[]⟩)).2 = s at hck HT2
              clear hc HT hTk
              go_wp2
              · go_ret
                exact ⟨true, rfl, fun h => absurd h (by decide), rfl⟩
              · go_ret
                exact ⟨true, rfl, fun h => absurd h (by decide), rfl⟩
              · exact ⟨⟨k + 1, by omega, by go_num, by rw [HT2.out]; go_num, by rw [HT2.out]; omega⟩, by simp [RowKit.intOf]; omega⟩
            · have HF : Hid (tot rs = T) := by
                show _ = _
                rw [← hTk, List.take_of_length_le (by rw [h.len]; omega)]
              clear HT hTk
              go_wp2
              go_ret
              exact ⟨false, rfl, fun _ => by rw [HF.out]; exact hT, rfl⟩
      · go_enter Tryd.func7, Tryd.ntmps7
        go_wp2
        go_ret
        exact ⟨true, rfl, fun h => absurd h (by decide), rfl⟩
    · go_enter Tryd.func7, Tryd.ntmps7
      go_wp2
      go_ret
      exact ⟨true, rfl, fun h => absurd h (by decide), rfl⟩
  · go_enter Tryd.func7, Tryd.ntmps7
    go_wp2
    go_ret
    exact ⟨true, rfl, fun h => absurd h (by decide), rfl⟩

set_option maxRecDepth 10000 in
set_option maxHeartbeats 2000000 in
theorem bytes_any (a : Option Addr) (n c : Nat) (rs : List (Nat × ByteArray)) (cl : ByteArray) (wrt : Bool) (ka : Option Addr) (kn kc : Nat) (w : World) (h : Ruls a n rs w) :
    Calls Tryd.prog 6 #[.slice a n c, .string cl, .bool wrt, .slice ka kn kc] w fun e w' => Answer True w e w' := by
  by_cases hn : n ≤ 1048576
  · go_enter Tryd.func6, Tryd.ntmps6
    go_wp2
    go_loop [9, 10] (fun tv i => ∃ k T : Nat, k ≤ n ∧ i = .int .i64 k ∧ tv = .int .i64 T ∧ T ≤ 1048576) (fun _ i => n - (RowKit.intOf i).toNat)
    case atStart => exact ⟨0, n, Nat.zero_le _, rfl, by go_num, hn⟩
    case round =>
      obtain ⟨k, T, hk, rfl, rfl, hT⟩ := hrel
      by_cases hlt : k < n
      · obtain ⟨b, off, ha, hb, hc⟩ := h.at_ (by omega)
        subst ha
        have hck := (hc k hlt).2
        have hki : (k : Int) < (n : Int) := by omega
        generalize (rs.getD k (0, ⟨#[]⟩)).2 = s at hck
        clear hc
        go_wp2
        · go_ret
          exact ⟨false, rfl, fun _ => trivial, rfl⟩
        · go_ret
          exact ⟨false, rfl, fun _ => trivial, rfl⟩
        · exact ⟨⟨k + 1, T + s.size, by omega, by go_num, by go_num, by omega⟩, by simp [RowKit.intOf]; omega⟩
      · go_wp2
        all_goals
          go_ret
          exact ⟨_, rfl, fun _ => trivial, rfl⟩
  · go_enter Tryd.func6, Tryd.ntmps6
    go_wp2
    go_ret
    exact ⟨false, rfl, fun _ => trivial, rfl⟩
end Go.Proofs.Qxb6604794aDoor
