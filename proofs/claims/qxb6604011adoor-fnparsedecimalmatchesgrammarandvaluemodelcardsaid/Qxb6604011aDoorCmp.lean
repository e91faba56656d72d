/-
  decStripZeros, cmpMag.
-/
import Derived.Test.Qxb6604011aDoorAdd
import Derived.Lib.IndexBytes
namespace Go.Proofs.Qxb6604011aDoor
open Go.RowKit

theorem drop_at (s : ByteArray) (k : Nat) (h : k < s.size) : s.data.toList.drop k = s[k] :: s.data.toList.drop (k + 1) := by
  rw [List.drop_eq_getElem_cons (by simpa using h)]; rfl

theorem ext_end (s : ByteArray) (k : Nat) : s.extract k s.size = ⟨(s.data.toList.drop k).toArray⟩ := by
  have := Go.Lib.extract_to_end s k
  rw [← this, Go.Joins.bytes_eta]

theorem ret_str {a b : ByteArray} (h : a = b) : Ending.returned (.string a) = .returned (.string b) := by rw [h]
theorem ret_int {k : IntKind} {a b : Int} (h : a = b) : Ending.returned (.int k a) = .returned (.int k b) := by rw [h]

theorem dw_yes {c : UInt8} {r : List UInt8} (h0 : ((c.toNat : Int) == 48) = true) : (c :: r).dropWhile (· == 48) = r.dropWhile (· == 48) := by
  have h := beq_iff_eq.1 h0
  have : c = 48 := UInt8.toNat_inj.1 (by have : c.toNat = 48 := by omega
                                         rw [this]; rfl)
  subst this
  rw [List.dropWhile_cons, if_pos (by simp)]
theorem dw_no {c : UInt8} {r : List UInt8} (h0 : ((c.toNat : Int) == 48) = false) : (c :: r).dropWhile (· == 48) = c :: r := by
  have h := beq_eq_false_iff_ne.1 h0
  have : c ≠ 48 := by rintro rfl; exact h rfl
  rw [List.dropWhile_cons, if_neg (by simpa using this)]

set_option maxHeartbeats 400000 in
theorem strip_any (s : ByteArray) (w : World) (hs : s.size ≤ 4194304) :
    Calls Tryd.prog 16 #[.string s] w fun e w' => e = .returned (.string ⟨(s.data.toList.dropWhile (· == 48)).toArray⟩) ∧ w' = w := by
  go_enter Tryd.func16, Tryd.ntmps16
  go_wp2
  go_loop [3] (fun i => ∃ k : Nat, k ≤ s.size ∧ i = .int .i64 k ∧ Hid (s.data.toList.dropWhile (· == 48) = (s.data.toList.drop k).dropWhile (· == 48))) (fun i => s.size - (RowKit.intOf i).toNat)
  case atStart => exact ⟨0, Nat.zero_le _, rfl, rfl⟩
  case round =>
    obtain ⟨k, hk, rfl, H⟩ := hrel
    by_cases hlt : k < s.size
    · have HD : Hid (s.data.toList.drop k = s[k] :: s.data.toList.drop (k + 1)) := drop_at s k hlt
      go_wp2
      · go_round
        case rel => exact ⟨k + 1, by omega, by go_num, by show _ = _; rw [H.out, HD.out]; exact dw_yes ‹_›⟩
        case measure => simp [RowKit.intOf]; omega
      · go_ret
        exact ⟨ret_str (by rw [H.out, HD.out, dw_no ‹_›, ← HD.out]; exact ext_end s k), rfl⟩
    · go_wp2
      go_ret
      exact ⟨ret_str (by rw [H.out, List.drop_of_length_le (by simp; omega)]; rw [show k = s.size by omega, ext_end, List.drop_of_length_le (by simp)]; rfl), rfl⟩

/-- how two canonical numerals compare -/
def cmpV (x y : List UInt8) : Int := if val x < val y then -1 else if val y < val x then 1 else 0

theorem len_lt_val {x y : List UInt8} (hx : can x) (hy : can y) (h : x.length < y.length) : val x < val y := by
  have h1 := val_lt x hx.1
  have h2 := can_big hy h
  omega

theorem pref_lt {x y : List UInt8} (hx : x.all dg = true) (hl : x.length = y.length) {k : Nat} (hk : k < x.length) (hk' : k < y.length) (hp : x.take k = y.take k) (hd : dg x[k] = true) (hlt : x[k].toNat < y[k].toNat) : val x < val y := by
  have ex : x = x.take k ++ (x[k] :: x.drop (k + 1)) := by rw [← List.drop_eq_getElem_cons hk, List.take_append_drop]
  have ey : y = y.take k ++ (y[k] :: y.drop (k + 1)) := by rw [← List.drop_eq_getElem_cons hk', List.take_append_drop]
  have hx1 : (x.drop (k + 1)).all dg = true := by
    rw [List.all_eq_true] at *
    intro c hc; exact hx c (List.mem_of_mem_drop hc)
  have v1 := val_lt _ hx1
  have ld : (x.drop (k + 1)).length = (y.drop (k + 1)).length := by simp [hl]
  have e1 : val x = val (x.take k) * 10 ^ (x[k] :: x.drop (k + 1)).length + ((x[k].toNat - 48) * 10 ^ (x.drop (k + 1)).length + val (x.drop (k + 1))) := by
    conv => lhs; rw [ex]
    rw [val_append, val_cons]
  have e2 : val y = val (y.take k) * 10 ^ (y[k] :: y.drop (k + 1)).length + ((y[k].toNat - 48) * 10 ^ (y.drop (k + 1)).length + val (y.drop (k + 1))) := by
    conv => lhs; rw [ey]
    rw [val_append, val_cons]
  rw [e1, e2, hp, List.length_cons, List.length_cons, ld]
  rw [ld] at v1
  have hdx := dg_iff.1 hd
  have h1 : (x[k].toNat - 48 + 1) * 10 ^ (y.drop (k + 1)).length ≤ (y[k].toNat - 48) * 10 ^ (y.drop (k + 1)).length := Nat.mul_le_mul_right _ (by omega)
  rw [Nat.add_mul, Nat.one_mul] at h1
  omega

theorem byte_list (s : ByteArray) (k : Nat) (h : k < s.size) : s[k] = s.data.toList[k]'(by simpa using h) := rfl

theorem cmp_next {x y : ByteArray} {k : Nat} (hx : k < x.size) (hy : k < y.size) (h : x.data.toList.take k = y.data.toList.take k) (hb : ((x[k].toNat : Int) != (y[k].toNat : Int)) = false) : x.data.toList.take (k + 1) = y.data.toList.take (k + 1) := by
  have e : x[k] = y[k] := UInt8.toNat_inj.1 (by have : (x[k].toNat : Int) = (y[k].toNat : Int) := by simpa using hb
                                                omega)
  rw [take_snoc x k hx, take_snoc y k hy, h, e]

theorem cmp_eq {x y : ByteArray} {k : Nat} (hx : x.size ≤ k) (hy : y.size ≤ k) (h : x.data.toList.take k = y.data.toList.take k) : cmpV x.data.toList y.data.toList = 0 := by
  rw [List.take_of_length_le (by simpa using hx), List.take_of_length_le (by simpa using hy)] at h
  unfold cmpV
  rw [h]; simp

theorem cmp_lt {x y : ByteArray} {k : Nat} (he : y.size = x.size) (hx : k < x.size) (hy : k < y.size) (cx : can x.data.toList) (h : x.data.toList.take k = y.data.toList.take k) (hb : x[k].toNat < y[k].toNat) : val x.data.toList < val y.data.toList := by
  refine pref_lt cx.1 (by simp; exact he.symm) (k := k) (by simpa using hx) (by simpa using hy) h ?_ hb
  exact List.all_eq_true.1 cx.1 _ (List.getElem_mem _)

theorem cmp_gt {x y : ByteArray} {k : Nat} (he : y.size = x.size) (hx : k < x.size) (hy : k < y.size) (cy : can y.data.toList) (h : x.data.toList.take k = y.data.toList.take k) (hn : ((x[k].toNat : Int) != (y[k].toNat : Int)) = true) (hb : ¬ x[k].toNat < y[k].toNat) : cmpV x.data.toList y.data.toList = 1 := by
  have hn' : (x[k].toNat : Int) ≠ (y[k].toNat : Int) := by simpa using hn
  have := cmp_lt he.symm hy hx cy h.symm (by omega)
  unfold cmpV
  rw [if_neg (by omega), if_pos this]

set_option maxHeartbeats 400000 in
theorem cmp_any (x y : ByteArray) (w : World) (hx : x.size ≤ 4194304) (cx : can x.data.toList) (cy : can y.data.toList) :
    Calls Tryd.prog 21 #[.string x, .string y] w fun e w' => e = .returned (.int .i64 (cmpV x.data.toList y.data.toList)) ∧ Below w.heap.size w w' := by
  have CX : Hid (can x.data.toList) := cx
  have CY : Hid (can y.data.toList) := cy
  clear cx cy
  by_cases h1 : x.size < y.size
  · have HV : Hid (cmpV x.data.toList y.data.toList = -1) := if_pos (len_lt_val CX.out CY.out (by simpa using h1))
    have hne : ((x.size : Int) != (y.size : Int)) = true := by rw [bne_iff_ne]; omega
    go_enter Tryd.func21, Tryd.ntmps21
    go_wp2
    go_ret
    exact ⟨ret_int HV.out.symm, Below.refl _ _⟩
  · by_cases h2 : y.size < x.size
    · have HV : Hid (cmpV x.data.toList y.data.toList = 1) := by
        have := len_lt_val CY.out CX.out (by simpa using h2)
        show _ = _
        unfold cmpV; rw [if_neg (by omega), if_pos this]
      have hne : ((x.size : Int) != (y.size : Int)) = true := by rw [bne_iff_ne]; omega
      go_enter Tryd.func21, Tryd.ntmps21
      go_wp2
      go_ret
      exact ⟨ret_int HV.out.symm, Below.refl _ _⟩
    · have he : y.size = x.size := by omega
      have hne : ((x.size : Int) != (y.size : Int)) = false := by rw [he]; simp
      have HE : Hid (y.size = x.size) := he
      clear he
      go_enter Tryd.func21, Tryd.ntmps21
      go_wp2
      go_loopw [5] (fun i wr => ∃ k q : Nat, k ≤ x.size ∧ i = .int .i64 k ∧ Hid (x.data.toList.take k = y.data.toList.take k) ∧ wr = w.drewN q) (fun i _ => x.size - (RowKit.intOf i).toNat)
      case atStart => exact ⟨0, 0, Nat.zero_le _, rfl, rfl, rfl⟩
      case round =>
        obtain ⟨k, q, hk, rfl, H, rfl⟩ := hrel
        by_cases hlt : k < x.size
        · have hlt2 : k < y.size := by omega
          have hi1 : (k : Int) < (x.size : Int) := by omega
          have hi2 : (k : Int) < (y.size : Int) := by omega
          go_wp2
          go_quiet (fail)
          go_wp2
          · go_quiet (fail)
            go_wp2
            · go_ret
              exact ⟨ret_int (if_pos (cmp_lt HE.out hlt hlt2 CX.out H.out ‹_›)).symm, below_drewN (below_drewN (below_drewN (Below.refl _ _) _) _) _⟩
            · go_ret
              exact ⟨ret_int (cmp_gt HE.out hlt hlt2 CY.out H.out ‹_› ‹_›).symm, below_drewN (below_drewN (below_drewN (Below.refl _ _) _) _) _⟩
          · exact ⟨⟨k + 1, q + nq, by omega, by go_num, cmp_next hlt hlt2 H.out ‹_›, rfl⟩, by simp [RowKit.intOf]; omega⟩
        · go_wp2
          go_ret
          exact ⟨ret_int (cmp_eq (by omega) (HE.out ▸ (by omega)) H.out).symm, below_drewN (Below.refl _ _) _⟩
end Go.Proofs.Qxb6604011aDoor
