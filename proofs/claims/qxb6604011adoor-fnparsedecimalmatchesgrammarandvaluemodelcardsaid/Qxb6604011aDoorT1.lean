import Derived.Test.Qxb6604011aDoorAdd
import Derived.Test.Qxb6604011aDoorShelfB
import Derived.WalkMore
import Derived.Deep.LoopGhost
namespace Go.Proofs.Qxb6604011aDoor
open Go.RowKit

open Go.Shelf in
/-- strings.IndexByte -/
theorem indexByte (s : ByteArray) (c : Int) (w : World) : Calls Tryd.prog 47 #[.string s, .int .u8 c] w fun e w' => e = .returned (.int .i64 (Lib.indexByte s.data.toList c.toNat.toUInt8)) ∧ w' = w := Any.strings_IndexByte Tryd.lays137 s c w

set_option maxRecDepth 1000000 in
set_option maxHeartbeats 400000 in
theorem rune_err (w : World) :
    Calls Tryd.prog 34 #[.string ⟨#[101, 69]⟩, .int .i32 65533] w fun e w' => e = .returned (.int .i64 (-1)) ∧ Below w.heap.size w w' := by
  go_enter Tryd.func34, Tryd.ntmps34
  go_wp2_with fail
  go_loopg [5, 6] 2 (fun g _ _ wx => ∃ i : Nat, i + g = 2 ∧ wx = w.iter ⟨#[101, 69]⟩ i)
  case atStart => exact ⟨0, rfl, rfl⟩
  case round =>
    obtain ⟨i, hig, rfl⟩ := hrel
    cases gk with
    | zero =>
      obtain rfl : i = 2 := by omega
      have hnx := fun ty => run_next_end (P := Tryd.prog) w ⟨#[101, 69]⟩ 2 ty (by decide)
      go_wp2
      go_ret
      exact ⟨rfl, (Below.refl _ _).alloc (Nat.le_refl _) _⟩
    | succ g =>
      have hi : i = 0 ∨ i = 1 := by omega
      have hnx0 := fun ty => run_next_ascii (P := Tryd.prog) w ⟨#[101, 69]⟩ 0 ty (by decide) (by decide)
      have hnx1 := fun ty => run_next_ascii (P := Tryd.prog) w ⟨#[101, 69]⟩ 1 ty (by decide) (by decide)
      rcases hi with rfl | rfl
      · go_wp2
        go_roundg g
        case measure => omega
        case rel => exact ⟨1, by omega, rfl⟩
      · go_wp2
        go_roundg g
        case measure => omega
        case rel => exact ⟨2, by omega, rfl⟩

set_option maxHeartbeats 400000 in
theorem valid_lo (r : Int) (w : World) (h1 : 0 ≤ r) (h2 : r < 55296) :
    Calls Tryd.prog 48 #[.int .i32 r] w fun e w' => e = .returned (.bool true) ∧ w' = w := by
  go_enter Tryd.func48, Tryd.ntmps48
  go_wp2
  go_ret
  exact ⟨rfl, rfl⟩
set_option maxHeartbeats 400000 in
theorem valid_hi (r : Int) (w : World) (h1 : 57343 < r) (h2 : r ≤ 1114111) :
    Calls Tryd.prog 48 #[.int .i32 r] w fun e w' => e = .returned (.bool true) ∧ w' = w := by
  go_enter Tryd.func48, Tryd.ntmps48
  go_wp2
  go_ret
  exact ⟨rfl, rfl⟩

set_option maxRecDepth 1000000 in
set_option maxHeartbeats 400000 in
theorem rune_walk (r : Int) (w : World) (en : ByteArray) (h1 : 128 ≤ r) (hne : (r == 65533) = false) (cv : Calls Tryd.prog 48 #[.int .i32 r] w fun e w' => e = .returned (.bool true) ∧ w' = w) (he : Hid (Utf8.encode r = en)) (hs : en.size = 2 ∨ en.size = 3 ∨ en.size = 4) (hb : ∀ h : en.size - 1 < en.size, 128 ≤ (en[en.size - 1]'h).toNat) :
    Calls Tryd.prog 34 #[.string ⟨#[101, 69]⟩, .int .i32 r] w fun e w' => e = .returned (.int .i64 (-1)) ∧ Below w.heap.size w w' := by
  go_enter Tryd.func34, Tryd.ntmps34
  go_wp2_with fail
  refine cv.mono ?_
  rintro e w1 ⟨rfl, rfl⟩
  go_wp2_with fail
  have he2 := he.out
  go_step3
  rcases hs with hs | hs | hs
  · have hw2 : IntKind.i64.wrap 2 = 2 := by decide
    have hb1 : 128 ≤ (en[1]'(by omega)).toNat := by have := hb (by omega); simpa only [hs] using this
    have hn1 : ((69 : Int) != (en[1].toNat : Int)) = true := by rw [bne_iff_ne]; omega
    have h69 : (((⟨#[101, 69]⟩ : ByteArray)[1]'(by decide)).toNat : Int) = 69 := rfl
    go_wp2_with fail
    go_loop [9] (fun i => i = .int .i64 1) (fun _ => 0)
    case atStart => rfl
    case round =>
      subst hrel
      go_wp2_with fail
      go_step3
      go_wp2_with fail
      go_quiet (fail)
      go_wp2_with fail
      have hbw : Below w1.heap.size w1 (w1.drewN nq) := below_drewN (Below.refl _ _) _
      generalize w1.drewN nq = w2 at hbw ⊢
      go_quiet ((go_at_call 47; exact Calls.quiet_of_same (indexByte _ _ _)))
      have hix : Lib.indexByte (ByteArray.empty).data.toList ((en[1].toNat : Int).toNat.toUInt8) = -1 := rfl
      go_wp2_with fail
      rw [Exit.noGoto_ret]
      show bodyPost Tryd.prog Tryd.f34 (fun e w' => e = Ending.returned (Value.int IntKind.i64 (-1)) ∧ Below w1.heap.size w1 w') Exit.ret _ _
      go_ret
      exact ⟨rfl, below_drewN hbw _⟩
  · go_wp2_with fail
    go_loop [9] (fun i => i = .int .i64 2) (fun _ => 0)
    case atStart => rfl
    case round =>
      subst hrel
      go_wp2_with fail
      go_ret
      exact ⟨rfl, Below.refl _ _⟩
  · go_wp2_with fail
    go_loop [9] (fun i => i = .int .i64 3) (fun _ => 0)
    case atStart => rfl
    case round =>
      subst hrel
      go_wp2_with fail
      go_ret
      exact ⟨rfl, Below.refl _ _⟩
end Go.Proofs.Qxb6604011aDoor
