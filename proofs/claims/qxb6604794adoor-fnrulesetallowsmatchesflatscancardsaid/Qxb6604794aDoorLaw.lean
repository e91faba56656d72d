/- The law's walk. -/
import Derived.Test.Qxb6604794aDoorCopy2
namespace Go.Proofs.Qxb6604794aDoor
open Go.RowKit

theorem MaxL.pos {w : World} (h : MaxL w) : 0 < w.heap.size := by
  obtain ⟨m, hm⟩ := h
  rcases Nat.lt_or_ge 0 w.heap.size with h' | h'
  · exact h'
  · exfalso
    have : w.heap[0]? = none := Array.getElem?_eq_none h'
    simp [World.cell?, this] at hm
theorem MaxL.below {w w' : World} {B : Nat} (h : MaxL w) (hb : Below B w w') (hB : 0 < B) : MaxL w' := by
  obtain ⟨m, hm⟩ := h
  exact ⟨m, by rw [hb.cell (p := ⟨0, 0, none⟩) hB]; exact hm⟩

theorem tot_mono {rs : List (Nat × ByteArray)} (k : Nat) : tot (rs.take k) ≤ tot rs := by
  unfold tot
  have : rs.map (fun ru => ru.2.size) = (rs.take k).map (fun ru => ru.2.size) ++ (rs.drop k).map (fun ru => ru.2.size) := by rw [← List.map_append, List.take_append_drop]
  rw [this, List.sum_append]; omega
theorem tot_mem {rs : List (Nat × ByteArray)} {ru : Nat × ByteArray} (h : ru ∈ rs) : ru.2.size ≤ tot rs := by
  induction rs with
  | nil => simp at h
  | cons x t ih =>
    have e : tot (x :: t) = x.2.size + tot t := by simp [tot]
    rw [e]
    rcases List.mem_cons.1 h with rfl | h1
    · omega
    · have := ih h1; omega
theorem take_getD {rs : List (Nat × ByteArray)} {k : Nat} (h : k < rs.length) : rs.take (k + 1) = rs.take k ++ [rs.getD k (0, ⟨#[]⟩)] := by
  rw [List.take_succ_eq_append_getElem h, List.getD_eq_getElem?_getD, List.getElem?_eq_getElem h]; rfl
theorem wants_snoc (rs : List (Nat × ByteArray)) (ru : Nat × ByteArray) (cl K : List UInt8) (wrt : Bool) : wants (rs ++ [ru]) cl K wrt = (wants rs cl K wrt || (grantOk ru.1 wrt && rr cl ru.2.data.toList K)) := by
  unfold wants
  rw [List.any_append]; simp

set_option maxRecDepth 100000 in
set_option maxHeartbeats 4000000 in
theorem law_walk (a : Option Addr) (n c : Nat) (rs : List (Nat × ByteArray)) (cl : ByteArray) (wrt : Bool) (ka : Option Addr) (kn kc : Nat) (K : List UInt8) (w : World) (hnil : a = none → n = 0 ∧ c = 0) (h : Ruls a n rs w)
    (hkv : KeyA ka kn kc K w) (hm : MaxL w) :
    Calls Tryd.prog 3 #[.slice a n c, .string cl, .bool wrt, .slice ka kn kc] w fun e w' => e = .returned (.bool true) ∧ Below w.heap.size w w' := by
  have c6 := bytes_any a n c rs cl wrt ka kn kc w h
  have hkl := hkv.len
  have c7 := tooBig_any a n c rs cl ka kn kc w h
  go_enter Tryd.func3, Tryd.ntmps3
  go_wp2_with fail
  refine c6.mono ?_
  rintro e w1 ⟨b, rfl, _, hw1⟩
  rw [hw1]
  clear hw1 c6
  cases b
  · go_wp2
    go_ret
    exact ⟨rfl, Below.refl _ _⟩
  · go_wp2_with fail
    refine c7.mono ?_
    rintro e w2 ⟨b, rfl, hbig, hw2⟩
    rw [hw2]
    clear hw2 c7
    cases b
    · have hb0 := hbig rfl
      have HB : Hid (24 * n + cl.size + kn + tot rs ≤ 1048576) := hb0
      have hn : n ≤ 65536 := by omega
      clear hbig hb0
      go_wp2_with fail
      go_loop [9] (fun i => ∃ k : Nat, k ≤ n ∧ i = .int .i64 k ∧ Hid (∀ j, j < k → (rs.getD j (0, ⟨#[]⟩)).1 ≤ 2)) (fun i => n - (RowKit.intOf i).toNat)
      case atStart => exact ⟨0, Nat.zero_le _, rfl, fun _ h => absurd h (Nat.not_lt_zero _)⟩
      case round =>
        obtain ⟨k, hk, rfl, HG⟩ := hrel
        by_cases hlt : k < n
        · obtain ⟨b, off, ha, hb, hc⟩ := h.at_ (by omega)
          subst ha
          have hck := (hc k hlt).1
          clear hc
          by_cases hg : (rs.getD k (0, ⟨#[]⟩)).1 ≤ 2
          · have HG2 : Hid (∀ j, j < k + 1 → (rs.getD j (0, ⟨#[]⟩)).1 ≤ 2) := by
              intro j hj
              by_cases e : j = k
              · rw [e]; exact hg
              · exact HG.out j (by omega)
            generalize (rs.getD k (0, ⟨#[]⟩)).1 = x at hck hg
            go_wp2
            exact ⟨⟨k + 1, by omega, by go_num, HG2⟩, by simp [RowKit.intOf]; omega⟩
          · generalize (rs.getD k (0, ⟨#[]⟩)).1 = x at hck hg
            go_wp2
            go_ret
            exact ⟨rfl, Below.refl _ _⟩
        · have HG2 : Hid (∀ j, j < n → (rs.getD j (0, ⟨#[]⟩)).1 ≤ 2) := fun j hj => HG.out j (by omega)
          clear HG
          have c8 := rules_any a n c rs w hn hnil h
          go_wp2_with fail
          refine c8.mono ?_
          rintro e w3 ⟨a', c', rfl, hr3, hb3⟩
          clear c8
          go_wp2_with fail
          refine (key_any (hkv.below hb3) (by have := HB.out; omega)).mono ?_
          rintro e w4 ⟨kv, rfl, hk4, hb4⟩
          have HR4 : Hid (Ruls a' n rs w4) := hr3.below hb4
          have HK4 : Hid (KeyV kv K w4) := hk4
          have HBW : Hid (Below w.heap.size w w4) := hb3.trans (hb4.mono hb3.size)
          have HM4 : Hid (MaxL w4) := hm.below HBW.out hm.pos
          clear hr3 hk4 hb3 hb4 hkv h hnil hm
          go_wp2_with fail
          refine (zzAllows_nil kv cl wrt w4).mono ?_
          rintro e w5 ⟨rfl, hw5⟩
          rw [hw5]
          clear hw5
          go_wp2_with fail
          refine (new_any w4.heap.size w4 (Nat.le_refl _)).mono ?_
          rintro e w6 ⟨rfl, h6, hb6⟩
          have H6 : Hid (Holds w4.heap.size w4.heap.size [] 0 w6) := h6
          clear h6
          generalize hrb : w4.heap.size = r at H6 hb6
          have HRB : Hid (w4.heap.size = r) := hrb
          clear hrb
          go_wp2_with fail
          go_loopw [12] (fun ix wr => ∃ k : Nat, k ≤ n ∧ ix = .int .i64 k ∧ Hid (Holds r r (rs.take k) (tot (rs.take k)) wr) ∧ Below r w4 wr) (fun ix _ => n - (RowKit.intOf ix).toNat)
          case atStart => exact ⟨0, Nat.zero_le _, rfl, H6.out, hb6⟩
          case round =>
            obtain ⟨k, hk, rfl, HH, hb⟩ := hrel
            by_cases hlt : k < n
            · have hr := HR4.out.below (HRB.out.symm ▸ hb)
              obtain ⟨b, off, ha, hbb, hc⟩ := hr.at_ (by omega)
              subst ha
              obtain ⟨hc0, hc1⟩ := hc k hlt
              have hkl2 : k < rs.length := by rw [HR4.out.len]; exact hlt
              have HT : Hid (rs.take (k + 1) = rs.take k ++ [rs.getD k (0, ⟨#[]⟩)]) := take_getD hkl2
              have HT2 : Hid (tot (rs.take (k + 1)) = tot (rs.take k) + (rs.getD k (0, ⟨#[]⟩)).2.size) := tot_take hkl2
              have hg := HG2.out k hlt
              have hsz : tot (rs.take k) + (rs.getD k (0, ⟨#[]⟩)).2.size ≤ 1048576 := by
                have h1 := HB.out
                have h2 := tot_mono (rs := rs) (k + 1)
                rw [HT2.out] at h2
                omega
              generalize rs.getD k (0, ⟨#[]⟩) = x at hc0 hc1 HT HT2 hg hsz
              obtain ⟨x1, x2⟩ := x
              have hr0 : 0 < r := by have := HRB.out; have := HM4.out.pos; omega
              have hmd : MaxL wr.drew := HM4.out.below hb.drew hr0
              have ca := zzAdd_any (HH.out.below (Below.refl _ _).drew) hmd x1 hg x2 (by have : tot (rs.take k) + x2.size ≤ 1048576 := hsz; omega) hsz (by rw [List.length_take]; omega)
              clear hr hc hg hsz hkl2 hr0 hmd
              go_wp2_with fail
              go_region_with (go_at_call 12; refine ca.mono ?_; rintro e w7 ⟨rfl, h7, hb7⟩)
              all_goals
                go_wp2
                refine ⟨⟨k + 1, by omega, by go_num, ?_, hb.drew.trans hb7⟩, by simp [RowKit.intOf]; omega⟩
                show Holds _ _ _ _ _
                rw [HT2.out, HT.out]
                exact h7
            · have HH2 : Hid (Holds r r rs (tot rs) wr) := by
                have h1 := HH.out
                rw [List.take_of_length_le (by rw [HR4.out.len]; omega)] at h1
                exact h1
              have HR5 : Hid (Ruls a' n rs wr) := HR4.out.below (HRB.out.symm ▸ hb)
              have HK5 : Hid (KeyV kv K wr) := HK4.out.below (HRB.out.symm ▸ hb)
              have HB5 : Hid (Below w.heap.size w wr) := HBW.out.trans (hb.mono (by rw [← HRB.out]; exact HBW.out.size))
              clear HH hb HR4 HK4 HM4 HBW H6 hb6 HG2
              go_wp2_with fail
              go_loopw [13, 14] (fun wv ix wi => ∃ (k : Nat) (q : Bool), k ≤ n ∧ ix = .int .i64 k ∧ wv = .bool q ∧ Hid (wants (rs.take k) cl.data.toList K wrt = q) ∧ Below wr.heap.size wr wi) (fun _ ix _ => n - (RowKit.intOf ix).toNat)
              case atStart => exact ⟨0, false, Nat.zero_le _, rfl, rfl, rfl, Below.refl _ _⟩
              case round =>
                obtain ⟨k, q, hk, rfl, rfl, HW, hb⟩ := hrel
                by_cases hlt : k < n
                · have hr := HR5.out.below hb
                  obtain ⟨b, off, ha, hbb, hc⟩ := hr.at_ (by omega)
                  subst ha
                  obtain ⟨hc0, hc1⟩ := hc k hlt
                  have hkl2 : k < rs.length := by rw [HR5.out.len]; exact hlt
                  have HT : Hid (wants (rs.take (k + 1)) cl.data.toList K wrt = (q || (grantOk (rs.getD k (0, ⟨#[]⟩)).1 wrt && rr cl.data.toList (rs.getD k (0, ⟨#[]⟩)).2.data.toList K))) := by
                    show _ = _
                    rw [take_getD hkl2, wants_snoc, HW.out]
                  have hsz : (rs.getD k (0, ⟨#[]⟩)).2.size ≤ 1048576 := by
                    have h1 := HB.out
                    have h2 := tot_mono (rs := rs) (k + 1)
                    rw [tot_take hkl2] at h2
                    omega
                  generalize rs.getD k (0, ⟨#[]⟩) = x at hc0 hc1 HT hsz
                  obtain ⟨x1, x2⟩ := x
                  have cg := zzGrant_any x1 wrt wr
                  have cr := reaches_any x2 cl kv K wr hsz (by have := HB.out; omega) (by have := HB.out; omega) (HK5.out.below hb)
                  have HT1 : Hid (wants (rs.take (k + 1)) cl.data.toList K wrt = (q || (grantOk x1 wrt && rr cl.data.toList x2.data.toList K))) := HT.out
                  generalize grantOk x1 wrt = q1 at cg HT1
                  generalize rr cl.data.toList x2.data.toList K = q2 at cr HT1
                  clear hr hc hsz hkl2 HT HW
                  cases q1
                  · have HT2 : Hid (wants (rs.take (k + 1)) cl.data.toList K wrt = q) := by
                      show _ = _
                      rw [HT1.out]; simp
                    clear HT1
                    go_wp2_with (go_at_call 13; refine cg.mono ?_; rintro e w7 ⟨rfl, hw7⟩; rw [hw7]; clear hw7)
                    exact ⟨⟨k + 1, q, by omega, by go_num, rfl, HT2, hb⟩, by simp [RowKit.intOf]; omega⟩
                  · cases q2
                    · have HT2 : Hid (wants (rs.take (k + 1)) cl.data.toList K wrt = q) := by
                        show _ = _
                        rw [HT1.out]; simp
                      clear HT1
                      go_wp2_with (first | (go_at_call 13; refine cg.mono ?_; rintro e w7 ⟨rfl, hw7⟩; rw [hw7]; clear hw7) | (go_at_call 14; refine cr.mono ?_; rintro e w8 ⟨rfl, hb8⟩))
                      exact ⟨⟨k + 1, q, by omega, by go_num, rfl, HT2, hb.trans (hb8.mono hb.size)⟩, by simp [RowKit.intOf]; omega⟩
                    · have HT2 : Hid (wants (rs.take (k + 1)) cl.data.toList K wrt = true) := by
                        show _ = _
                        rw [HT1.out]; simp
                      clear HT1
                      go_wp2_with (first | (go_at_call 13; refine cg.mono ?_; rintro e w7 ⟨rfl, hw7⟩; rw [hw7]; clear hw7) | (go_at_call 14; refine cr.mono ?_; rintro e w8 ⟨rfl, hb8⟩))
                      exact ⟨⟨k + 1, true, by omega, by go_num, rfl, HT2, hb.trans (hb8.mono hb.size)⟩, by simp [RowKit.intOf]; omega⟩
                · have cz := zzAllows_any (HH2.out.below hb) (by have := HB.out; omega) (by rw [HR5.out.len]; omega) (fun ru hru => by
                    have h1 := tot_mem hru
                    have h2 := HB.out
                    have h3 : 0 < n := by rw [← HR5.out.len]; exact List.length_pos_of_mem hru
                    omega) (HK5.out.below hb) (by have := HB.out; omega) cl wrt
                  have hW := HW.out
                  rw [List.take_of_length_le (by rw [HR5.out.len]; omega)] at hW
                  rw [hW] at cz
                  clear hW HW
                  go_wp2_with (go_at_call 10; refine cz.mono ?_; rintro e w9 ⟨rfl, hb9⟩)
                  go_ret
                  exact ⟨by simp, HB5.out.trans ((hb.trans (hb9.mono hb.size)).mono HB5.out.size)⟩
    · go_wp2
      go_ret
      exact ⟨rfl, Below.refl _ _⟩
end Go.Proofs.Qxb6604794aDoor
