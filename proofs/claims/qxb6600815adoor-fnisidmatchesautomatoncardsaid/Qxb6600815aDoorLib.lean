import Derived.Test.Qxb6600815aDoorShelf
import Derived.Shelf.Strings.SlTrimAscii
import Derived.Shelf.Small.Wraps
import Derived.Shelf.Strings.Shaped
namespace Go.Proofs
open Go.Shelf
open Go.RowKit in
theorem Tryd.trimDigits (s : ByteArray) (w : World) (hs : s.size ≤ 9223372036854775807) :
    Calls Tryd.prog 16 #[.string s, .string ⟨#[48, 49, 50, 51, 52, 53, 54, 55, 56, 57]⟩] w fun e w' => e = .returned (.string ⟨(Lib.trimS s.data.toList [48, 49, 50, 51, 52, 53, 54, 55, 56, 57]).toArray⟩) ∧ Below w.heap.size w w' :=
  Any.strings_Trim_laid Tryd.lays160 (by kernel_rfl) s ⟨#[48, 49, 50, 51, 52, 53, 54, 55, 56, 57]⟩ w hs (by decide) (ascii_of_all (by decide))
open Go.RowKit in
theorem Tryd.cutPrefix (s : ByteArray) (w : World) :
    Calls Tryd.prog 11 #[.string s, .string ⟨#[67, 86, 69, 45]⟩] w fun e w' => e = .returned (.tuple #[.string ⟨(Lib.trimPrefix s.data.toList [67, 86, 69, 45]).toArray⟩, .bool (Lib.hasPrefix s.data.toList [67, 86, 69, 45])]) ∧ w' = w :=
  Any.strings_CutPrefix Tryd.lays103 s ⟨#[67, 86, 69, 45]⟩ w
open Go.RowKit in
theorem Tryd.cutDash (s : ByteArray) (w : World) (h : w.ShapedOpen Tryd.prog) (hs : s.size < 4294967281) :
    Calls Tryd.prog 12 #[.string s, .string ⟨#[45]⟩] w fun e w' => e = .returned (.tuple #[.string ⟨(Lib.cut s.data.toList [45]).1.toArray⟩, .string ⟨(Lib.cut s.data.toList [45]).2.1.toArray⟩, .bool (Lib.cut s.data.toList [45]).2.2]) ∧ ∃ n, w' = w.drewN n :=
  Any.strings_Cut_shaped Tryd.laysM145 s ⟨#[45]⟩ w h hs
end Go.Proofs
