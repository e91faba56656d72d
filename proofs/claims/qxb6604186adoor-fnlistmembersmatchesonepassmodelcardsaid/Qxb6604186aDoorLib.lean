/-
  strings.Trim at this program.
-/
import Derived.Test.Qxb6604186aDoorShelf
import Derived.Test.Qxb6604186aDoorPlain
namespace Go.Proofs.Qxb6604186aDoor
open Go.RowKit Go.Shelf
theorem libTrim (s : ByteArray) (w : World) (hs : s.size ≤ 4194304) :
    Calls Tryd.prog 14 #[.string s, .string ⟨#[32, 9]⟩] w fun e w' => e = .returned (.string ⟨(trim s.data.toList).toArray⟩) ∧ Below w.heap.size w w' :=
  Any.strings_Trim_laid Tryd.lays160 (by kernel_rfl) s ⟨#[32, 9]⟩ w (by omega) (by decide) (ascii_of_all (by decide))
end Go.Proofs.Qxb6604186aDoor
