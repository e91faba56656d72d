/- zzRuleReaches: its walk. -/
import Derived.Test.Qxb6604794aDoorReach
import Derived.Deep.QuietTactic
import Derived.BigQuiet
import Derived.Deep.DeepCutAuto
namespace Go.Proofs.Qxb6604794aDoor
open Go.RowKit

theorem below_drewN {B : Nat} {a w : World} (h : Below B a w) (q : Nat) : Below B a (w.drewN q) := ⟨h.os, h.tape, h.output, h.size, h.block⟩

theorem pre_long {a b : List UInt8} (h : b.length < a.length) : a.isPrefixOf b = false := by
  rw [← Bool.not_eq_true, List.isPrefixOf_iff_prefix]
  intro h1
  have := h1.length_le
  omega

set_option maxRecDepth 1000000 in
set_option maxHeartbeats 2000000 in
theorem reaches_some (s cl : ByteArray) (g off n c : Nat) (K : List UInt8) (w : World) (hs : s.size ≤ 1048576) (hcl : cl.size ≤ 1048576) (hn : K.length = n) (hN : n ≤ 1048576) (h : Bys g off K w) :
    Calls Tryd.prog 14 #[.string s, .string cl, .slice (some ⟨g, off, none⟩) n c] w fun e w' => e = .returned (.bool (rr cl.data.toList s.data.toList K)) ∧ Below w.heap.size w w' := by
  obtain ⟨R, hR⟩ : ∃ R, rr cl.data.toList s.data.toList K = R := ⟨_, rfl⟩
  rw [hR]
  have HR : Hid (rr cl.data.toList s.data.toList K = R) := hR
  clear hR
  go_enter Tryd.func14, Tryd.ntmps14
  go_wp2_with fail
  go_loopw [7, 8] (fun i m wr => ∃ j k : Nat, j ≤ s.size ∧ k ≤ n ∧ i = .int .i64 j ∧ m = .int .i64 k ∧ Hid (rr cl.data.toList (s.data.toList.drop j) (K.drop k) = R) ∧ Below w.heap.size w wr) (fun i _ _ => s.size - (RowKit.intOf i).toNat)
  case atStart => exact ⟨0, 0, Nat.zero_le _, Nat.zero_le _, rfl, rfl, HR, Below.refl _ _⟩
  case round =>
    obtain ⟨j, k, hj, hk, rfl, rfl, HC, hb⟩ := hrel
    by_cases hlt : j < s.size
    · have cw := wordAt_any s j wr hs hj
      have HD : Hid (s.data.toList.drop j = s[j] :: s.data.toList.drop (j + 1)) := drop_at s j hlt
      obtain ⟨q, hq⟩ : ∃ q, isW (s.data.toList.drop j) = q := ⟨_, rfl⟩
      rw [hq] at cw
      have HQ : Hid (isW (s.data.toList.drop j) = q) := hq
      clear hq
      cases q
      · have HP : Hid (((K.drop k).head? == some s[j] && rr cl.data.toList (s.data.toList.drop (j + 1)) ((K.drop k).drop 1)) = R) := by
          show _ = _
          rw [← HC.out, HD.out, rr_plain (by rw [← HD.out]; exact HQ.out)]
        go_wp2_with fail
        refine cw.mono ?_
        rintro e w2 ⟨rfl, hw2⟩
        rw [hw2]
        clear hw2 cw
        by_cases hkn : k < n
        · have hck : wr.cell? ⟨g, off + k, none⟩ = some (.int .u8 (K.getD k 0).toNat) := (hb.cell (p := ⟨g, off + k, none⟩) h.lt).trans (h.cell k (by omega))
          have HK : Hid (K.drop k = K.getD k 0 :: K.drop (k + 1)) := by
            show _ = _
            rw [List.drop_eq_getElem_cons (by omega), getD_lt (by omega)]
          generalize K.getD k 0 = x at hck HK
          cases hq : ((x.toNat : Int) != (s[j].toNat : Int))
          · have hx : x = s[j] := by
              have := bne_eq_false_iff_eq.1 hq
              exact UInt8.toNat_inj.1 (by omega)
            have HP2 : Hid (rr cl.data.toList (s.data.toList.drop (j + 1)) (K.drop (k + 1)) = R) := by
              show _ = _
              rw [← HP.out, HK.out, hx]; simp
            clear hx
            go_wp2_with fail
            go_quiet (fail)
            go_wp2_with fail
            exact ⟨⟨j + 1, k + 1, by omega, by omega, by go_num, by go_num, HP2, below_drewN hb _⟩, by simp [RowKit.intOf]; omega⟩
          · have HF : Hid (R = false) := by
              show _ = _
              rw [← HP.out, HK.out]
              have hx : ¬ x = s[j] := by rintro rfl; simp at hq
              simp [hx]
            go_wp2_with fail
            go_quiet (fail)
            go_wp2_with fail
            go_ret
            exact ⟨ret_bool HF.out.symm, below_drewN hb _⟩
        · have HF : Hid (R = false) := by
            show _ = _
            rw [← HP.out, List.drop_of_length_le (by omega)]; rfl
          go_wp2_with fail
          go_quiet (fail)
          go_wp2_with fail
          go_ret
          exact ⟨ret_bool HF.out.symm, below_drewN hb _⟩
      · have hw8 : j + 8 ≤ s.size := by
          have := isW_len HQ.out
          rw [List.length_drop, Array.length_toList] at this
          have e : s.data.size = s.size := rfl
          omega
        have HP : Hid ((!cl.data.toList.isEmpty && (cl.data.toList.isPrefixOf (K.drop k) && rr cl.data.toList (s.data.toList.drop (j + 8)) (K.drop (k + cl.size)))) = R) := by
          show _ = _
          rw [← HC.out, rr_word HQ.out, List.drop_drop, List.drop_drop, Array.length_toList]; rfl
        clear HC HQ HD
        by_cases he : cl.data.toList = []
        · have hei : cl.toList.isEmpty = true := by rw [ByteArray.toList_eq, he]; rfl
          have HF : Hid (R = false) := by show _ = _; rw [← HP.out, he]; rfl
          clear he
          go_wp2_with (go_at_call 20; refine cw.mono ?_; rintro e w2 ⟨rfl, hw2⟩; rw [hw2]; clear hw2)
          go_ret
          exact ⟨ret_bool HF.out.symm, hb⟩
        · have hei : cl.toList.isEmpty = false := by rw [ByteArray.toList_eq, List.isEmpty_eq_false_iff]; exact he
          have HE : Hid (cl.data.toList.isEmpty = false) := by show _ = _; rw [List.isEmpty_eq_false_iff]; exact he
          clear he
          by_cases hln : n - k < cl.size
          · have HF : Hid (R = false) := by
              show _ = _
              rw [← HP.out, pre_long (by rw [List.length_drop, Array.length_toList]; show K.length - k < cl.size; omega)]
              simp
            go_wp2_with (go_at_call 20; refine cw.mono ?_; rintro e w2 ⟨rfl, hw2⟩; rw [hw2]; clear hw2)
            go_ret
            exact ⟨ret_bool HF.out.symm, hb⟩
          · go_wp2_with (go_at_call 20; refine cw.mono ?_; rintro e w2 ⟨rfl, hw2⟩; rw [hw2]; clear hw2)
            go_loopw [9] (fun ci wi => ∃ m : Nat, m ≤ cl.size ∧ ci = .int .i64 m ∧ Hid (cl.data.toList.take m = (K.drop k).take m) ∧ Below w.heap.size w wi) (fun ci _ => cl.size - (RowKit.intOf ci).toNat)
            case atStart => exact ⟨0, Nat.zero_le _, rfl, rfl, hb⟩
            case round =>
              obtain ⟨m, hm, rfl, HM, hbi⟩ := hrel
              by_cases hml : m < cl.size
              · have hcm := (hbi.cell (p := ⟨g, off + (k + m), none⟩) h.lt).trans (h.cell (k + m) (by omega))
                have HX : Hid ((K.drop k).take (m + 1) = (K.drop k).take m ++ [K.getD (k + m) 0]) := by
                  show _ = _
                  have hl2 : m < (K.drop k).length := by rw [List.length_drop]; omega
                  rw [List.take_succ_eq_append_getElem hl2, getD_lt (by omega), List.getElem_drop]
                have HY : Hid (cl.data.toList.take (m + 1) = cl.data.toList.take m ++ [cl[m]]) := by
                  show _ = _
                  rw [List.take_succ_eq_append_getElem (by simpa using hml)]; rfl
                generalize K.getD (k + m) 0 = x at hcm HX
                cases hq : ((x.toNat : Int) != (cl[m].toNat : Int))
                · have hx : x = cl[m] := by
                    have := bne_eq_false_iff_eq.1 hq
                    exact UInt8.toNat_inj.1 (by omega)
                  have HM2 : Hid (cl.data.toList.take (m + 1) = (K.drop k).take (m + 1)) := by
                    show _ = _
                    rw [HX.out, HY.out, HM.out, hx]
                  clear hx
                  go_wp2_with fail
                  go_quiet (fail)
                  go_wp2_with fail
                  exact ⟨⟨m + 1, by omega, by go_num, HM2, below_drewN hbi _⟩, by simp [RowKit.intOf]; omega⟩
                · have HF : Hid (R = false) := by
                    show _ = _
                    have hx : ¬ cl[m] = x := by rintro rfl; simp at hq
                    have hnp : cl.data.toList.isPrefixOf (K.drop k) = false := by
                      rw [← Bool.not_eq_true, List.isPrefixOf_iff_prefix, List.prefix_iff_eq_take]
                      intro e
                      have e2 := congrArg (List.take (m + 1)) e
                      rw [List.take_take, Nat.min_eq_left (by rw [Array.length_toList]; show m + 1 ≤ cl.size; omega), HX.out, HY.out, HM.out] at e2
                      exact hx (by simpa using List.append_cancel_left e2)
                    rw [← HP.out, hnp]; simp
                  go_wp2_with fail
                  go_quiet (fail)
                  go_wp2_with fail
                  go_ret
                  exact ⟨ret_bool HF.out.symm, below_drewN hbi _⟩
              · have HPre : Hid (cl.data.toList.isPrefixOf (K.drop k) = true) := by
                  show _ = _
                  rw [List.isPrefixOf_iff_prefix, List.prefix_iff_eq_take]
                  have e : cl.data.toList.length = cl.size := by simp
                  have := HM.out
                  rw [show m = cl.size by omega, ← e, List.take_length] at this
                  exact this
                have HT : Hid (rr cl.data.toList (s.data.toList.drop (j + 8)) (K.drop (k + cl.size)) = R) := by
                  show _ = _
                  rw [← HP.out, HPre.out, HE.out]; simp
                go_wp2_with fail
                exact ⟨⟨j + 8, k + cl.size, by omega, by omega, by go_num, by go_num, HT, hbi⟩, by simp [RowKit.intOf]; omega⟩
    · have hje : j = s.size := by omega
      go_wp2_with fail
      go_ret
      exact ⟨ret_bool (by rw [← HC.out, List.drop_of_length_le (by rw [Array.length_toList]; show s.size ≤ j; omega), rr_nil]), hb⟩
end Go.Proofs.Qxb6604794aDoor
