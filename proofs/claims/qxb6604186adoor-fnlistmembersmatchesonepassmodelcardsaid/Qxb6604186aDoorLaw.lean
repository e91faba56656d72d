/-
  sameStrings, and the law's walk.
-/
import Derived.Test.Qxb6604186aDoorOne
namespace Go.Proofs.Qxb6604186aDoor
open Go.RowKit

theorem OwnS.strs {w : World} {B : Nat} {v : Value} {M : List (List UInt8)} (h : OwnS w B v M) : ∃ a c, v = .slice a M.length c ∧ Strs a M.length (M.map fun m => (⟨m.toArray⟩ : ByteArray)) w := by
  have hcells := fun g hg => World.ownsRow.cells (g := g) h hg
  have hlt := fun k hk => World.ownsRow.lt h k hk
  rcases h.2 with ⟨rfl, h0⟩ | ⟨g, cap, cur, rfl, hbg, hgg, hnc, hcm, hcs, htk⟩
  · exact ⟨none, 0, by rw [h0], by simp, fun h => by omega⟩
  · refine ⟨_, cap, rfl, by simp, fun _ => ⟨g, 0, rfl, (hlt g rfl).2, fun j hj => ?_⟩⟩
    have hu : (sv M)[j]? = some (.string ((M.map fun m => (⟨m.toArray⟩ : ByteArray)).getD j ⟨#[]⟩)) := by
      unfold sv
      rw [List.getElem?_map, List.getElem?_eq_getElem hj, List.getD_eq_getElem?_getD, List.getElem?_map, List.getElem?_eq_getElem hj]; rfl
    have := hcells g rfl j _ hu
    have e : ((⟨g, 0, none⟩ : Addr).add j) = ⟨g, 0 + j, none⟩ := by unfold Addr.add; simp [eq_comm]
    rwa [e] at this

theorem Strs.below {a : Option Addr} {n : Nat} {ls : List ByteArray} {w w' : World} (h : Strs a n ls w) (hb : Below w.heap.size w w') : Strs a n ls w' :=
  ⟨h.len, fun h0 => let ⟨b, off, ha, hlt, hc⟩ := h.at_ h0; ⟨b, off, ha, Nat.lt_of_lt_of_le hlt hb.size, fun j hj => (hb.cell (p := ⟨b, off + j, none⟩) hlt).trans (hc j hj)⟩⟩

theorem SRow.strs {g : Nat} {ls : List ByteArray} {w : World} (h : SRow g ls w) (hg : g < w.heap.size) : Strs (some ⟨g, 0, none⟩) ls.length ls w :=
  ⟨rfl, fun _ => ⟨g, 0, rfl, hg, fun j hj => by rw [Nat.zero_add]; exact h.cell j hj⟩⟩

set_option maxHeartbeats 1000000 in
theorem same_true (a1 a2 : Option Addr) (n c1 c2 : Nat) (ls : List ByteArray) (w : World) (hn : n ≤ 1048576) (h1 : Strs a1 n ls w) (h2 : Strs a2 n ls w) :
    Calls Tryd.prog 7 #[.slice a1 n c1, .slice a2 n c2] w fun e w' => e = .returned (.bool true) ∧ Below w.heap.size w w' := by
  go_enter Tryd.func7, Tryd.ntmps7
  go_wp2
  go_loopw [5] (fun i wr => ∃ k q : Nat, k ≤ n ∧ i = .int .i64 k ∧ wr = w.drewN q) (fun i _ => n - (RowKit.intOf i).toNat)
  case atStart => exact ⟨0, 0, Nat.zero_le _, rfl, rfl⟩
  case round =>
    obtain ⟨k, q, hk, rfl, rfl⟩ := hrel
    by_cases hlt : k < n
    · obtain ⟨b, off, ha, _, hc⟩ := h1.at_ (by omega)
      obtain ⟨b', off', ha', _, hc'⟩ := h2.at_ (by omega)
      subst ha
      subst ha'
      have hck := hc k hlt
      have hck' := hc' k hlt
      have hki : (k : Int) < (n : Int) := by omega
      generalize ls.getD k ⟨#[]⟩ = s at hck hck'
      clear hc hc'
      go_wp2
      go_quiet (fail)
      go_wp2
      exact ⟨⟨k + 1, q + nq, by omega, by go_num, rfl⟩, by simp [RowKit.intOf]; omega⟩
    · go_wp2
      go_ret
      exact ⟨rfl, below_drewN (Below.refl _ _) _⟩

set_option maxHeartbeats 400000 in
theorem zz_any (a : Option Addr) (n c : Nat) (ls : List ByteArray) (w : World) (hn : n ≤ 65536) (ht : tot ls ≤ 1048576) (h : Strs a n ls w) :
    Calls Tryd.prog 8 #[.slice a n c] w fun e w' => ∃ v, e = .returned v ∧ OwnS w' w.heap.size v (mem ls) ∧ Below w.heap.size w w' := by
  have cl := list_any a n c ls w hn ht h
  go_enter Tryd.func8, Tryd.ntmps8
  go_wp2_with fail
  refine cl.mono ?_
  rintro e w1 ⟨v, rfl, ho, hb⟩
  go_wp2
  go_ret
  exact ⟨v, rfl, ho, hb⟩

set_option maxHeartbeats 1000000 in
theorem law_walk (a : Option Addr) (n c : Nat) (ls : List ByteArray) (w : World) (hnil : a = none → n = 0 ∧ c = 0) (h : Strs a n ls w) :
    Calls Tryd.prog 3 #[.slice a n c] w fun e w' => e = .returned (.bool true) ∧ Below w.heap.size w w' := by
  have c4 := bytes_any a n c ls w h
  have c5 := tooBig_any a n c ls w h
  go_enter Tryd.func3, Tryd.ntmps3
  go_wp2_with fail
  refine c4.mono ?_
  rintro e w1 ⟨b, rfl, _, rfl⟩
  cases b
  · go_wp2
    go_ret
    exact ⟨rfl, Below.refl _ _⟩
  · go_wp2_with fail
    refine c5.mono ?_
    rintro e w2 ⟨b, rfl, hbig, rfl⟩
    cases b
    · have hb0 := hbig rfl
      have hn : n ≤ 65536 := by omega
      have ht : tot ls ≤ 1048576 := by omega
      have hml := mem_len ls
      have key : ∃ (a' : Option Addr) (c' : Nat), Calls Tryd.prog 6 #[.slice a n c] w2 fun e w' => e = .returned (.slice a' n c') ∧ Strs a' n ls w' ∧ Below w2.heap.size w2 w' := by
        cases a with
        | none =>
          obtain ⟨rfl, rfl⟩ := hnil rfl
          refine ⟨none, 0, (copy_nil w2).mono ?_⟩
          rintro e w' ⟨rfl, rfl⟩
          exact ⟨rfl, h, Below.refl _ _⟩
        | some ad =>
          refine ⟨some ⟨w2.heap.size, 0, none⟩, n, (copy_some ad n c ls w2 hn h).mono ?_⟩
          rintro e w' ⟨rfl, hr, hb, hlt⟩
          refine ⟨rfl, ?_, hb⟩
          have := hr.strs hlt
          rwa [h.len] at this
      obtain ⟨a', c', c6⟩ := key
      clear c4 c5 hbig hb0
      go_wp2_with fail
      refine c6.mono ?_
      rintro e w3 ⟨rfl, hs3, hb3⟩
      go_wp2_with fail
      refine (zz_any a' n c' ls _ hn ht hs3).mono ?_
      rintro e w4 ⟨v, rfl, ho4, hb4⟩
      go_wp2_with fail
      refine (model_any a' n c' ls _ hn ht (hs3.below hb4)).mono ?_
      rintro e w5 ⟨v', rfl, ho5, hb5⟩
      obtain ⟨a1, c1, hv, hs1⟩ := (ho4.below hb5).strs
      obtain ⟨a2, c2, hv', hs2⟩ := ho5.strs
      subst hv
      subst hv'
      go_wp2_with fail
      refine (same_true a1 a2 _ c1 c2 _ _ (by omega) hs1 hs2).mono ?_
      rintro e w6 ⟨rfl, hb6⟩
      go_wp2
      go_ret
      have e4 := hb3.trans (hb4.mono hb3.size)
      have e5 := e4.trans (hb5.mono e4.size)
      exact ⟨rfl, e5.trans (hb6.mono e5.size)⟩
    · go_wp2
      go_ret
      exact ⟨rfl, Below.refl _ _⟩
end Go.Proofs.Qxb6604186aDoor
