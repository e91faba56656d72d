/-
  modelMembers.
-/
import Derived.Test.Qxb6604186aDoorList
namespace Go.Proofs.Qxb6604186aDoor
open Go.RowKit

/-- where the one pass over a line stands -/
def At (all acc : List (List UInt8)) (l : List UInt8) (st j : Nat) : Prop := all = acc ++ pend ((l.take j).drop st) (l.drop j)

theorem At.start {all acc : List (List UInt8)} {l : List UInt8} (h : all = acc ++ lm l) : At all acc l 0 0 := by
  unfold At; rw [h, lm_pend]; simp

theorem At.comma {all acc : List (List UInt8)} {s : ByteArray} {st j : Nat} (h : At all acc s.data.toList st j) (hj : j < s.size) (hc : ((s[j].toNat : Int) == 44) = true) :
    At all (acc ++ keep (trim ((s.data.toList.take j).drop st))) s.data.toList (j + 1) (j + 1) := by
  unfold At at *
  rw [drop_at s j hj, pend_comma _ _ (by rw [← b44]; exact hc)] at h
  rw [h, List.append_assoc, List.drop_of_length_le (i := j + 1) (l := s.data.toList.take (j + 1)) (by simp; omega)]

theorem drop_take_snoc {s : ByteArray} {st j : Nat} (hst : st ≤ j) (hj : j < s.size) : (s.data.toList.take (j + 1)).drop st = (s.data.toList.take j).drop st ++ [s[j]] := by
  rw [take_snoc s j hj, List.drop_append_of_le_length (by simp; omega)]

theorem At.plain {all acc : List (List UInt8)} {s : ByteArray} {st j : Nat} (h : At all acc s.data.toList st j) (hst : st ≤ j) (hj : j < s.size) (hc : ((s[j].toNat : Int) == 44) = false) (hq : ((s[j].toNat : Int) == 34) = false) :
    At all acc s.data.toList st (j + 1) := by
  unfold At at *
  rw [drop_at s j hj, pend_plain _ _ (by rw [← b44]; exact hc) (by rw [← b34]; exact hq)] at h
  rw [h, drop_take_snoc hst hj]

theorem At.quote {all acc : List (List UInt8)} {s : ByteArray} {st j k : Nat} (h : At all acc s.data.toList st j) (hst : st ≤ j) (hj : j < s.size) (hq : ((s[j].toNat : Int) == 34) = true)
    (hk : s.data.toList.take (j + 1) ++ (inq (s.data.toList.drop (j + 1))).1 = s.data.toList.take (k + 1) ∧ (inq (s.data.toList.drop (j + 1))).2 = s.data.toList.drop (k + 1)) :
    At all acc s.data.toList st (k + 1) := by
  unfold At at *
  rw [drop_at s j hj, pend_quote _ _ (by rw [← b34]; exact hq)] at h
  rw [h, ← hk.2, ← hk.1, List.drop_append_of_le_length (by simp; omega), drop_take_snoc hst hj]
  simp

theorem At.fin {all acc : List (List UInt8)} {s : ByteArray} {st j : Nat} (h : At all acc s.data.toList st j) (hj : ¬ j < s.size) : all = acc ++ keep (trim (s.data.toList.drop st)) := by
  unfold At at h
  rw [List.drop_of_length_le (i := j) (by simp; omega), List.take_of_length_le (by simp; omega), pend_nil] at h
  exact h

set_option maxHeartbeats 1000000 in
theorem model_any (a : Option Addr) (n c : Nat) (ls : List ByteArray) (w : World) (hn : n ≤ 65536) (ht : tot ls ≤ 1048576) (h : Strs a n ls w) :
    Calls Tryd.prog 9 #[.slice a n c] w fun e w' => ∃ v, e = .returned v ∧ OwnS w' w.heap.size v (mem ls) ∧ Below w.heap.size w w' := by
  obtain ⟨i0, hi, hz0, hz1, hz2⟩ := info_parts Tryd.info9
  go_enter Tryd.func9, Tryd.ntmps9
  go_wp2
  go_loopw [3, 4] (fun v i wr => ∃ k : Nat, k ≤ n ∧ i = .int .i64 k ∧ OwnS wr w.heap.size v (mem (ls.take k)) ∧ Below w.heap.size w wr) (fun _ i _ => n - (RowKit.intOf i).toNat)
  case atStart => exact ⟨0, Nat.zero_le _, rfl, OwnS.nil _ _, Below.refl _ _⟩
  case round =>
    obtain ⟨k, hk, rfl, hown, hb⟩ := hrel
    by_cases hlt : k < n
    · obtain ⟨b, off, ha, hbb, hcc⟩ := h.at_ (by omega)
      subst ha
      have hck : wr.cell? ⟨b, off + k, none⟩ = some (.string (ls.getD k ⟨#[]⟩)) := (hb.cell (p := ⟨b, off + k, none⟩) hbb).trans (hcc k hlt)
      have hki : (k : Int) < (n : Int) := by omega
      have HM : Hid (mem (ls.take (k + 1)) = mem (ls.take k) ++ lm (ls.getD k ⟨#[]⟩).data.toList) := mem_take (by rw [h.len]; exact hlt)
      have hsz : (ls.getD k ⟨#[]⟩).size ≤ 1048576 := Nat.le_trans (size_of (by rw [h.len]; exact hlt)) ht
      generalize ls.getD k ⟨#[]⟩ = s at hck HM hsz
      clear hcc
      go_wp2
      go_loopw [3, 6, 7, 8] (fun v sv jv _ wi => ∃ (acc : List (List UInt8)) (st j : Nat), sv = .int .i64 st ∧ jv = .int .i64 j ∧ st ≤ j ∧ st ≤ s.size ∧ j ≤ s.size + 2 ∧ At (mem (ls.take (k + 1))) acc s.data.toList st j ∧ OwnS wi w.heap.size v acc ∧ Below w.heap.size w wi) (fun _ _ jv _ _ => s.size + 2 - (RowKit.intOf jv).toNat)
      case atStart => exact ⟨mem (ls.take k), 0, 0, rfl, rfl, by omega, by omega, by omega, At.start HM.out, hown, hb⟩
      case round =>
        obtain ⟨acc, st, j, rfl, rfl, hstj, hst, hj2, HA, hown2, hb2⟩ := hrel
        have HAT : Hid (At (mem (ls.take (k + 1))) acc s.data.toList st j) := HA
        have hacc := part_len HA ht
        clear HA
        have hws : w.heap.size ≤ wr.heap.size := hb2.size
        by_cases hjl : j < s.size
        · have hji : (j : Int) < (s.size : Int) := by omega
          have hsti : (st : Int) ≤ (j : Int) := by omega
          have ct := fun w => trim_any (s.extract st j) w (by rw [ByteArray.size_extract]; omega)
          have cq := fun w => close_any s j w (by omega) hjl
          go_wp2_with fail
          · have HA2 := HAT.out.comma hjl ‹_›
            have hx : (s.extract st j).data.toList = (s.data.toList.take j).drop st := by rw [ext_mid]
            refine (ct _).mono ?_
            rintro e w2 ⟨rfl, rfl⟩
            rw [hx]
            have HB : Hid (At (mem (ls.take (k + 1))) (acc ++ keep (trim ((s.data.toList.take j).drop st))) s.data.toList (j + 1) (j + 1)) := HA2
            clear HA2 hx ct cq
            cases hte : (trim ((s.data.toList.take j).drop st)).isEmpty
            · have HK : Hid (keep (trim ((s.data.toList.take j).drop st)) = [trim ((s.data.toList.take j).drop st)]) := toList_ne hte
              generalize trim ((s.data.toList.take j).drop st) = m at *
              go_wp2_with (at_builtin; refine wpList_append_own _ rfl _ _ 22 rfl w.heap.size 9 i0 (.string ⟨#[]⟩) 1 16 Tryd.underlying22 hi hz0 hz1 hz2 rfl (by decide) _ _ _ rfl (hown2.alloc _) ⟨w2.heap.size, 0, none⟩ 1 1 [.string ⟨m.toArray⟩] rfl rfl ?c1 ?c2 ?c3 ?c4 ?c5 ?_)
              case c1 => intro j u hj; match j, hj with | 0, hj => simp at hj; subst hj; simp [Addr.add]
              case c2 => intro u hu; simp at hu; subst hu; rfl
              case c3 => unfold maxLen; omega
              case c4 => omega
              case c5 => simp; omega
              · intro v' w5 hown5 hgr _
                go_wp2
                refine ⟨⟨acc ++ [m], j + 1, j + 1, by go_num, by go_num, by omega, by omega, by omega, by have := HB.out; rwa [HK.out] at this, ?_, (hb2.alloc hws _).grown hgr (by simp; omega) (fun i hi => (hown2.lt i hi).1)⟩, by simp [RowKit.intOf]; omega⟩
                unfold OwnS
                rw [sv_snoc, List.length_append]
                exact hown5
            · have HK : Hid (keep (trim ((s.data.toList.take j).drop st)) = []) := toList_e hte
              go_wp2
              exact ⟨⟨acc, j + 1, j + 1, by go_num, by go_num, by omega, by omega, by omega, by have := HB.out; rwa [HK.out, List.append_nil] at this, hown2, hb2⟩, by simp [RowKit.intOf]; omega⟩
          · refine (cq _).mono ?_
            rintro e w2 ⟨kq, rfl, hkq1, hkq2, hkq, rfl⟩
            have HB : Hid (At (mem (ls.take (k + 1))) acc s.data.toList st (kq + 1)) := HAT.out.quote hstj hjl ‹_› hkq
            clear hkq ct cq
            go_wp2
            exact ⟨⟨acc, st, kq + 1, rfl, by go_num, by omega, by omega, by omega, HB.out, hown2, hb2⟩, by simp [RowKit.intOf]; omega⟩
          · exact ⟨⟨acc, st, j + 1, rfl, by go_num, by omega, by omega, by omega, HAT.out.plain hstj hjl ‹_› ‹_›, hown2, hb2⟩, by simp [RowKit.intOf]; omega⟩
        · have HF : Hid (mem (ls.take (k + 1)) = acc ++ keep (trim (s.data.toList.drop st))) := HAT.out.fin hjl
          have hx : (s.extract st s.size).data.toList = s.data.toList.drop st := by rw [ext_end]
          have ct := fun w => trim_any (s.extract st s.size) w (by rw [ByteArray.size_extract]; omega)
          have hsti : (st : Int) ≤ (s.size : Int) := by omega
          clear HAT
          go_wp2_with fail
          refine (ct _).mono ?_
          rintro e w2 ⟨rfl, rfl⟩
          rw [hx]
          clear hx ct
          cases hte : (trim (s.data.toList.drop st)).isEmpty
          · have HK : Hid (keep (trim (s.data.toList.drop st)) = [trim (s.data.toList.drop st)]) := toList_ne hte
            generalize trim (s.data.toList.drop st) = m at *
            go_wp2_with (at_builtin; refine wpList_append_own _ rfl _ _ 22 rfl w.heap.size 9 i0 (.string ⟨#[]⟩) 1 16 Tryd.underlying22 hi hz0 hz1 hz2 rfl (by decide) _ _ _ rfl (hown2.alloc _) ⟨w2.heap.size, 0, none⟩ 1 1 [.string ⟨m.toArray⟩] rfl rfl ?c1 ?c2 ?c3 ?c4 ?c5 ?_)
            case c1 => intro j u hj; match j, hj with | 0, hj => simp at hj; subst hj; simp [Addr.add]
            case c2 => intro u hu; simp at hu; subst hu; rfl
            case c3 => unfold maxLen; omega
            case c4 => omega
            case c5 => simp; omega
            · intro v' w5 hown5 hgr _
              go_wp2
              refine ⟨⟨k + 1, by omega, by go_num, ?_, (hb2.alloc hws _).grown hgr (by simp; omega) (fun i hi => (hown2.lt i hi).1)⟩, by simp [RowKit.intOf]; omega⟩
              rw [HF.out, HK.out]
              unfold OwnS
              rw [sv_snoc, List.length_append]
              exact hown5
          · have HK : Hid (keep (trim (s.data.toList.drop st)) = []) := toList_e hte
            go_wp2
            exact ⟨⟨k + 1, by omega, by go_num, by rw [HF.out, HK.out, List.append_nil]; exact hown2, hb2⟩, by simp [RowKit.intOf]; omega⟩
    · have hf : ls.take k = ls := List.take_of_length_le (by rw [h.len]; omega)
      rw [hf] at hown
      clear hf
      go_wp2
      go_ret
      exact ⟨_, rfl, hown, hb⟩
end Go.Proofs.Qxb6604186aDoor
