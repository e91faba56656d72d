/- The law of ParseDecimal: its walk. -/
import Derived.Test.Qxb6604011aDoorDec5
import Derived.Test.Qxb6604011aDoorDec6
namespace Go.Proofs.Qxb6604011aDoor
open Go.RowKit Go.Shelf

theorem maxL_of {W : World} (h : W.ShapedOpen Tryd.prog) : MaxL W := Tryd.laysM145.s1_3 W h
theorem MaxL.pos {w : World} (h : MaxL w) : 0 < w.heap.size := by
  obtain ⟨m, hm⟩ := h
  rcases Nat.lt_or_ge 0 w.heap.size with h' | h'
  · exact h'
  · exfalso
    have : w.heap[0]? = none := Array.getElem?_eq_none h'
    simp [World.cell?, this] at hm

theorem dec_walk (s : ByteArray) (w : World) (hp : Pow w) (hm : MaxL w) :
    Calls Tryd.prog 3 #[.string s] w fun e w' => e = .returned (.bool true) ∧ Below w.heap.size w w' := by
  refine law_of s w _ _ _ _ _ (fun hs => zz_of _ _ _ _ _ _ _ (parse_walk s w hs hp hm hm.pos)) (fun hs w => ?_)
  have h := model_walk s w hs
  rw [← parse_eq] at h
  exact h
end Go.Proofs.Qxb6604011aDoor
