/- (template).covers. -/
import Derived.Test.Qxb6604794aDoorPre
namespace Go.Proofs.Qxb6604794aDoor
open Go.RowKit

/-- the parts, with the client between each two, begin the bytes -/
def cov (cl : List UInt8) : Bool → List (List UInt8) → List UInt8 → Bool
  | _, [], _ => true
  | false, p :: ps, r => p.isPrefixOf r && cov cl true ps (r.drop p.length)
  | true, p :: ps, r => cl.isPrefixOf r && (p.isPrefixOf (r.drop cl.length) && cov cl true ps ((r.drop cl.length).drop p.length))

/-- the slice 'a', n long, reads as the strings 'ls' -/
structure Strs (a : Option Addr) (n : Nat) (ls : List ByteArray) (w : World) : Prop where
  len : ls.length = n
  at_ : 0 < n → ∃ b off, a = some ⟨b, off, none⟩ ∧ b < w.heap.size ∧ ∀ j, j < n → w.cell? ⟨b, off + j, none⟩ = some (.string (ls.getD j ⟨#[]⟩))
theorem Strs.below {a : Option Addr} {n : Nat} {ls : List ByteArray} {w w' : World} (h : Strs a n ls w) (hb : Below w.heap.size w w') : Strs a n ls w' :=
  ⟨h.len, fun hn => by
    obtain ⟨b, off, h1, h2, h3⟩ := h.at_ hn
    exact ⟨b, off, h1, Nat.lt_of_lt_of_le h2 hb.size, fun j hj => (hb.cell (p := ⟨b, off + j, none⟩) h2).trans (h3 j hj)⟩⟩

def bl (ls : List ByteArray) : List (List UInt8) := ls.map fun s => s.data.toList
theorem bl_drop {ls : List ByteArray} {k : Nat} (h : k < ls.length) : bl (ls.drop k) = (ls.getD k ⟨#[]⟩).data.toList :: bl (ls.drop (k + 1)) := by
  have e : ls.getD k ⟨#[]⟩ = ls[k] := by rw [List.getD_eq_getElem?_getD, List.getElem?_eq_getElem h]; rfl
  rw [List.drop_eq_getElem_cons h, e]; rfl

theorem ret_bool {a b : Bool} (h : a = b) : Ending.returned (.bool a) = .returned (.bool b) := by rw [h]

theorem cov_first {cl p r : List UInt8} {ps : List (List UInt8)} (h : p.isPrefixOf r = true) : cov cl false (p :: ps) r = cov cl true ps (r.drop p.length) := by
  rw [cov, h]; rfl
theorem cov_next {cl p r : List UInt8} {ps : List (List UInt8)} (h1 : cl.isPrefixOf r = true) (h2 : p.isPrefixOf (r.drop cl.length) = true) : cov cl true (p :: ps) r = cov cl true ps ((r.drop cl.length).drop p.length) := by
  rw [cov, h1, h2]; rfl

set_option maxHeartbeats 1000000 in
theorem covers_any (g : Nat) (a : Option Addr) (n c : Nat) (ls : List ByteArray) (cl : ByteArray) (v : Value) (K : List UInt8) (w : World) (hn : n ≤ 1048576) (h : Strs a n ls w) (hK : KeyV v K w) :
    Calls Tryd.prog 23 #[.agg #[.int .u8 g, .slice a n c], .string cl, v] w fun e w' => e = .returned (.bool (cov cl.data.toList false (bl ls) K)) ∧ Below w.heap.size w w' := by
  obtain ⟨R, hR⟩ : ∃ R, cov cl.data.toList false (bl ls) K = R := ⟨_, rfl⟩
  rw [hR]
  have HR : Hid (cov cl.data.toList false (bl ls) K = R) := hR
  clear hR
  go_enter Tryd.func23, Tryd.ntmps23
  go_wp2_with fail
  go_loopw [14, 7] (fun i v wr => ∃ (k : Nat) (r : List UInt8), k ≤ n ∧ i = .int .i64 k ∧ KeyV v r wr ∧ Hid (cov cl.data.toList (decide (0 < k)) (bl (ls.drop k)) r = R) ∧ Below w.heap.size w wr ∧ w.heap.size < wr.heap.size) (fun i _ _ => n - (RowKit.intOf i).toNat)
  case atStart => exact ⟨0, K, Nat.zero_le _, rfl, hK.below ((Below.refl _ _).alloc (Nat.le_refl _) _), HR, (Below.refl _ _).alloc (Nat.le_refl _) _, by simp⟩
  case round =>
    obtain ⟨k, r, hk, rfl, hv, HC, hb, hsz⟩ := hrel
    by_cases hlt : k < n
    · obtain ⟨b, off, ha, hbb, hcc⟩ := h.at_ (by omega)
      subst ha
      have hck := (hb.cell (p := ⟨b, off + k, none⟩) hbb).trans (hcc k hlt)
      have HB : Hid (bl (ls.drop k) = (ls.getD k ⟨#[]⟩).data.toList :: bl (ls.drop (k + 1))) := bl_drop (by rw [h.len]; exact hlt)
      generalize ls.getD k ⟨#[]⟩ = p at hck HB
      clear hcc
      by_cases hk0 : 0 < k
      · have HC0 : Hid (cov cl.data.toList true (p.data.toList :: bl (ls.drop (k + 1))) r = R) := by
          show _ = _
          rw [← HB.out, ← HC.out, decide_eq_true hk0]
        clear HC HB
        have cp1 := hasPre_any hv cl
        obtain ⟨q, hq⟩ : ∃ q, cl.data.toList.isPrefixOf r = q := ⟨_, rfl⟩
        rw [hq] at cp1
        cases q
        · have HF : Hid (R = false) := by show _ = _; rw [← HC0.out, cov, hq]; rfl
          go_wp2_with fail
          refine cp1.mono ?_
          rintro e w2 ⟨rfl, hw2⟩
          rw [hw2]
          go_wp2_with fail
          go_ret
          exact ⟨ret_bool HF.out.symm, hb⟩
        · have hcle : cl.size ≤ r.length := by
            have := (List.isPrefixOf_iff_prefix.1 hq).length_le
            rwa [Array.length_toList] at this
          have hql : cl.data.toList.length = cl.size := by simp
          have HQ : Hid (cl.data.toList.isPrefixOf r = true) := hq
          clear hq
          obtain ⟨v2, hsl, hv2⟩ := hv.cut cl.size hcle
          clear hv
          have cp2 := hasPre_any hv2 p
          obtain ⟨q2, hq2⟩ : ∃ q2, p.data.toList.isPrefixOf (r.drop cl.size) = q2 := ⟨_, rfl⟩
          rw [hq2] at cp2
          cases q2
          · have HF : Hid (R = false) := by show _ = _; rw [← HC0.out, cov, HQ.out, hql, hq2]; rfl
            clear hq2
            go_wp2_with fail
            refine cp1.mono ?_
            rintro e w2 ⟨rfl, hw2⟩
            rw [hw2]
            clear hw2 cp1
            go_wp2_with fail
            refine cp2.mono ?_
            rintro e w2 ⟨rfl, hw2⟩
            rw [hw2]
            clear hw2 cp2
            go_wp2_with fail
            go_ret
            exact ⟨ret_bool HF.out.symm, hb⟩
          · have hple : p.size ≤ (r.drop cl.size).length := by
              have := (List.isPrefixOf_iff_prefix.1 hq2).length_le
              rwa [Array.length_toList] at this
            have HT : Hid (cov cl.data.toList true (bl (ls.drop (k + 1))) ((r.drop cl.size).drop p.size) = R) := by
              show _ = _
              have e := cov_next (ps := bl (ls.drop (k + 1))) HQ.out (by rw [hql]; exact hq2)
              rw [HC0.out, hql, Array.length_toList] at e
              exact e.symm
            obtain ⟨v3, hsl3, hv3⟩ := hv2.cut p.size hple
            clear hq2 hv2
            go_wp2_with fail
            refine cp1.mono ?_
            rintro e w2 ⟨rfl, hw2⟩
            rw [hw2]
            clear hw2 cp1
            go_wp2_with fail
            refine cp2.mono ?_
            rintro e w2 ⟨rfl, hw2⟩
            rw [hw2]
            clear hw2 cp2
            go_wp2_with fail
            exact ⟨⟨k + 1, _, by omega, by go_num, hv3, by rw [decide_eq_true (by omega)]; exact HT, hb, hsz⟩, by simp [RowKit.intOf]; omega⟩
      · have HC0 : Hid (cov cl.data.toList false (p.data.toList :: bl (ls.drop (k + 1))) r = R) := by
          show _ = _
          rw [← HB.out, ← HC.out, decide_eq_false hk0]
        clear HC HB
        have cp1 := hasPre_any hv p
        obtain ⟨q, hq⟩ : ∃ q, p.data.toList.isPrefixOf r = q := ⟨_, rfl⟩
        rw [hq] at cp1
        cases q
        · have HF : Hid (R = false) := by show _ = _; rw [← HC0.out, cov, hq]; rfl
          clear hq
          go_wp2_with fail
          refine cp1.mono ?_
          rintro e w2 ⟨rfl, hw2⟩
          rw [hw2]
          clear hw2 cp1
          go_wp2_with fail
          go_ret
          exact ⟨ret_bool HF.out.symm, hb⟩
        · have hple : p.size ≤ r.length := by
            have := (List.isPrefixOf_iff_prefix.1 hq).length_le
            rwa [Array.length_toList] at this
          have HT : Hid (cov cl.data.toList true (bl (ls.drop (k + 1))) (r.drop p.size) = R) := by
            show _ = _
            have e := cov_first (cl := cl.data.toList) (ps := bl (ls.drop (k + 1))) hq
            rw [HC0.out, Array.length_toList] at e
            exact e.symm
          obtain ⟨v3, hsl3, hv3⟩ := hv.cut p.size hple
          clear hq hv
          go_wp2_with fail
          refine cp1.mono ?_
          rintro e w2 ⟨rfl, hw2⟩
          rw [hw2]
          clear hw2 cp1
          go_wp2_with fail
          exact ⟨⟨k + 1, _, by omega, by go_num, hv3, by rw [decide_eq_true (by omega)]; exact HT, hb, hsz⟩, by simp [RowKit.intOf]; omega⟩
    · go_wp2_with fail
      go_ret
      exact ⟨ret_bool (by rw [← HC.out, List.drop_of_length_le (by rw [h.len]; omega)]; cases decide (0 < k) <;> rfl), hb⟩
end Go.Proofs.Qxb6604794aDoor
