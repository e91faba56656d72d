import Derived.Test.Qxb6604011aDoorT2
import Derived.Shelf.Strings.IndexAnyAll
namespace Go.Proofs.Qxb6604011aDoor
open Go.RowKit Go.Shelf

def eE : List UInt8 := [101, 69]

theorem useSet (n : Int) (w : World) :
    Calls Tryd.prog 35 #[.int .i64 n] w fun e w' => e = .returned (.bool (decide (8 < n))) ∧ w' = w :=
  Any.strings_shouldUseASCIISet { Tryd.lays153 with } n w
theorem rune_low (r : Int) (w : World) (h0 : 0 ≤ r) (h1 : r < 128) :
    Calls Tryd.prog 34 #[.string ⟨#[101, 69]⟩, .int .i32 r] w fun e w' => e = .returned (.int .i64 (Lib.indexByte eE r.toNat.toUInt8)) ∧ w' = w :=
  Any.strings_IndexRune_ascii Tryd.lays152 ⟨#[101, 69]⟩ r w h0 h1

theorem noAny_skip {s : ByteArray} {i : Nat} (h : Lib.NoAny s.data.toList eE i) (hi : i < s.size) (ha : 128 ≤ (s[i]'hi).toNat) :
    Lib.NoAny s.data.toList eE (i + (Utf8.decode s i).2) := by
  intro j b hj hb
  by_cases hji : j < i
  · exact h j b hji hb
  · have hf := decode_facts s i hi ha
    have hjs : j < s.size := by omega
    have hb' : s[j]'hjs = b := by
      have := Lib.data_getElem? s j hjs
      rw [this] at hb; exact Option.some.inj hb
    have hb128 : 128 ≤ b.toNat := by
      by_cases hje : j = i
      · subst hje; rw [← hb']; exact ha
      · have := hf.2.2 (j - i) (by omega) (by omega)
        have e : i + (j - i) = j := by omega
        rw [e] at this
        have e2 : s.get! j = s[j]'hjs := get_at s j hjs
        rw [e2, hb'] at this; exact this
    simp only [eE, List.contains_cons, List.contains_nil, Bool.or_false, Bool.or_eq_false_iff, beq_eq_false_iff_ne]
    constructor
    · rintro rfl; revert hb128; decide
    · rintro rfl; revert hb128; decide

set_option maxHeartbeats 8000000 in
set_option maxRecDepth 1000000 in
theorem any_short (s : ByteArray) (w : World) (h8 : s.size ≤ 8) :
    Calls Tryd.prog 25 #[.string s, .string ⟨#[101, 69]⟩] w fun e w' => e = .returned (.int .i64 (Lib.indexAny s.data.toList eE)) ∧ Below w.heap.size w w' := by
  have h8z : decide ((8 : Int) < (s.size : Int)) = false := decide_eq_false (by omega)
  go_enter Tryd.func25, Tryd.ntmps25
  go_wp2_with (go_at_call 35; refine (useSet _ _).mono ?_; rintro e w' ⟨rfl, hw⟩; rw [hw, h8z])
  go_loopg [9, 10] s.size (fun g _ _ wx => ∃ i : Nat, i + g = s.size ∧ At w s i wx ∧ Lib.NoAny s.data.toList eE i)
  case atStart => exact ⟨0, by omega, At.start w s, Lib.NoAny.zero _ _⟩
  case round =>
    obtain ⟨i, hig, hat, hno⟩ := hrel
    have HN : Aside (Lib.NoAny s.data.toList eE i) := hno
    clear hno
    cases gk with
    | zero =>
      obtain rfl : i = s.size := by omega
      have hnx := fun ty => next_stop (P := Tryd.prog) _ _ _ _ ty hat.here (by omega)
      go_wp2_with fail
      go_ret
      exact ⟨by rw [Lib.indexAny_none (by rw [← Lib.size_eq]; exact HN.out)]; rfl, hat.below⟩
    | succ g =>
      have hi : i < s.size := by omega
      obtain ⟨wy, hnx, hm⟩ := hat.next hi
      by_cases hx128 : (s[i]'hi).toNat < 128
      · obtain ⟨x, hx⟩ : ∃ x : UInt8, s[i]'hi = x := ⟨_, rfl⟩
        rw [hx] at hx128
        rw [decode_ascii s i hi (by rw [hx]; exact hx128), hx] at hnx hm
        simp only at hnx hm
        have Hx : Aside (s.data.toList[i]? = some x) := by rw [← hx]; exact Lib.data_getElem? s i hi
        clear hx
        have hcon := Lib.contains_iff_indexByte eE x
        have hback : ((x.toNat : Int)).toNat.toUInt8 = x := by simp
        have HM : Aside (At w s (i + 1) wy) := hm
        clear hm
        cases hin : eE.contains x
        · rw [hin] at hcon
          have hlt : ¬ ((0 : Int) ≤ Lib.indexByte eE x) := of_decide_eq_false hcon.symm
          clear hcon
          go_wp2_with (go_at_call 34; refine (rune_low _ _ (by omega) (by omega)).mono ?_; rintro e w' ⟨rfl, hw⟩; rw [hw, hback])
          go_roundg g
          case measure => omega
          case rel => exact ⟨i + 1, by omega, HM.out, HN.out.succ Hx.out hin⟩
        · rw [hin] at hcon
          have hge : (0 : Int) ≤ Lib.indexByte eE x := of_decide_eq_true hcon.symm
          clear hcon
          go_wp2_with (go_at_call 34; refine (rune_low _ _ (by omega) (by omega)).mono ?_; rintro e w' ⟨rfl, hw⟩; rw [hw, hback])
          go_ret
          exact ⟨by rw [Lib.indexAny_hit HN.out Hx.out hin]; rfl, HM.out.below⟩
      · have hx : 128 ≤ (s[i]'hi).toNat := by omega
        have hd := decode_high s i hi hx
        have hf := decode_facts s i hi hx
        have HN2 : Aside (Lib.NoAny s.data.toList eE (i + (Utf8.decode s i).2)) := noAny_skip HN.out hi hx
        generalize Utf8.decode s i = rd at *
        obtain ⟨r, wd⟩ := rd
        simp only at hd hf HN2 hm hnx
        have hvv : Hid (Utf8.valid (r : Int) = true) := hf.1
        have hwd := hf.2.1
        clear hf hx128
        have hrz : (128 : Int) ≤ (r : Int) := by omega
        go_wp2_with fail
        refine (rune_high _ _ hrz hvv).mono ?_
        rintro e w' ⟨rfl, hw⟩
        have hm2 := hm.call hw
        go_wp2_with fail
        go_roundg (g + 1 - wd)
        case measure => omega
        case rel => exact ⟨i + wd, by omega, hm2, HN2.out⟩

theorem set153 : (Tryd.prog.info? (Tryd.lays153_ren.t 116)).map (fun i => (i.zero, i.size)) = some (some (.agg (Array.replicate 256 (.bool false))), 256) := by kernel_rfl
theorem any_long (s : ByteArray) (w : World) (h8 : 8 < s.size) (hs : s.size < 4294967281) :
    Calls Tryd.prog 25 #[.string s, .string ⟨#[101, 69]⟩] w fun e w' => e = .returned (.int .i64 (Lib.indexAny s.data.toList eE)) ∧ Below w.heap.size w w' := by
  refine (Any.strings_IndexAny_long Tryd.lays153 (zero_of_info set153).1 (zero_of_info set153).2 s ⟨#[101, 69]⟩ w (by decide) h8 hs (by decide) ?_).mono fun e w' ⟨h1, h2⟩ => ⟨h1, ?_⟩
  · intro j b hb
    match j, hb with
    | 0, hb => cases hb; decide
    | 1, hb => cases hb; decide
    | n + 2, hb => cases hb
  · rw [h2]; exact ((Below.refl _ _).alloc (Nat.le_refl _) _).alloc (by simp) _

/-- strings.IndexAny(s, "eE"), for any bytes. -/
theorem any_any (s : ByteArray) (w : World) (hs : s.size < 4294967281) :
    Calls Tryd.prog 25 #[.string s, .string ⟨#[101, 69]⟩] w fun e w' => e = .returned (.int .i64 (Lib.indexAny s.data.toList eE)) ∧ Below w.heap.size w w' := by
  by_cases h8 : s.size ≤ 8
  · exact any_short s w h8
  · exact any_long s w (by omega) hs
end Go.Proofs.Qxb6604011aDoor
