/-
  What the three cards of this seat share: the wrap, the witness' facts, the table of powers out of the row's list.
-/
import Derived.Test.Qxb6604011aDoorCards
import Derived.Test.Qxb6604011aDoorTie
import Derived.Test.Qxb6604011aDoorLib
import Derived.ProofKit
import Derived.HandedShaped
import Derived.Lay
import Derived.LaidOnce
import Derived.SevenTiedAt
import Derived.Lib.LaidU8
import Derived.Lib.LaidTab
namespace Go.Proofs.Qxb6604011aDoor
open Go.ChangeShapes Go.WideShapes Go.ChangeAt Go.RowKit

theorem own : ownKnob Tryd.prog.godebug = none := by kernel_rfl

/-- the wrap that hands on both what the row lists and the world's shape -/
theorem returns_both {H : Type} {enc : TypeId × Value → H} {a : Assume} {C : Checked} {os : Os} {f : FuncId} {fn : Func} {s : ChangeSpec} {conds : List PathCond} {apart fresh handsOn again : Bool} {X : World → Array Value → Prop}
    (hX : ∀ (w w' : World) (args : Array Value), w.heap = w'.heap → X w args → X w' args)
    (own : ownKnob C.prog.godebug = none) (started : os.Started) (noInit : C.prog.inits.idxOf? f = none) (hfn : C.prog.funcs[f]? = some fn)
    (witness : ∃ (w : World) (tape : Tape) (i : Input), w.os = os ∧ (w.forCall tape i).Shaped C.prog ∧ i.vars = [] ∧ Input.okWide C.prog (w.forCall tape i) .any w.heap.size f i ∧
      ((s.pre enc C.prog fn conds apart (w.forCall tape i).memory i.args ∧ X (w.forCall tape i).memory i.args) ∧ sizedMet enc C.prog fn (OpenSpec.ofChange s) apart (w.forCall tape i).memory i.args) ∧ a.holds C.prog (lone (Frame.enter C.prog f i.args .normal) [] (w.forCall tape i)))
    (contract : ∀ (W : World) (base : Nat) (args : Array Value) (ds gs : List (DataW H)) (before : List MemPlace),
      (∀ (j : Nat) t v, fn.params[j]? = some t → args[j]? = some v → Value.okWide C.prog W .any base t v) →
      DataW.Whole enc C.prog fn.params.toList s.vars apart W args.toList ds gs before →
      conds.all (PathCond.test C.prog ⟨fn.params.toList, ds, s.plain.varTypes C.prog, gs⟩) = true →
      X W args → W.ShapedOpen C.prog →
      Calls C.prog f args W fun e W' => ∃ v, e = .returned v ∧ s.post enc C.prog fn apart fresh handsOn again W args v W') :
    ReturnsInHanded a C os f .any (fun w args => (s.pre enc C.prog fn conds apart w args ∧ X w args) ∧ sizedMet enc C.prog fn (OpenSpec.ofChange s) apart w args) (s.post enc C.prog fn apart fresh handsOn again) := by
  refine returnsInHanded_of_calls own started noInit witness ?_
  intro w tape i _ hsh _ hok hpre _
  obtain ⟨_, _, _, fn', hfn', _, _, _, _, hval⟩ := hok
  obtain rfl : fn' = fn := Option.some.inj (hfn'.symm.trans hfn)
  obtain ⟨⟨⟨ds, gs, before, hw, hc⟩, hx⟩, _⟩ := hpre
  refine (contract (w.forCall tape i) w.heap.size i.args ds gs before hval (DataW.Whole.of_heap (w' := w.forCall tape i) (by rfl) hw) hc (hX _ _ _ (by rfl) hx) hsh).mono fun e W' ⟨v, he, hp⟩ => ?_
  subst he
  exact ChangeSpec.post_blind hp

/-- the seven listed variables, as every row of this seat lists them -/
def laid7 : List (String × DataW Unit) := Rows.fnIntegerAddUndoneByMinusNRow.laid

theorem tPow : (Tryd.prog.globals[1]?).map (·.type) = some 84 := by kernel_rfl
theorem cells84 : Tryd.prog.cellsOf 84 = 20 := by kernel_rfl
theorem pow_datum : Rows.laid_internal_strconv_uint64pow10 = Lib.tabData (H := Unit) .u64 Lib.pow10Tab := by kernel_rfl

theorem pow_of_laid {W : World} (h : laidMetH Tryd.prog laid7 W) : Pow W := by
  rw [MakeChecks.laidMetH_plain _ _ _ (by kernel_rfl)] at h
  obtain ⟨g, t, cs, fuel, q, hg, ht, hv, hd⟩ := Lib.laidMet.reads h (n := "internal/strconv.uint64pow10") (d := Rows.laid_internal_strconv_uint64pow10) (.tail _ (.tail _ (.head _)))
  obtain rfl := Option.some.inj (gPow.symm.trans hg)
  obtain rfl := Option.some.inj (tPow.symm.trans ht)
  rw [pow_datum] at hd
  have hcs := Lib.cells_of_tab Tryd.underlying84 Tryd.underlying72 (by kernel_rfl) cells84 hd
  unfold Pow Lib.TabIs
  rw [hv, ← hcs]
end Go.Proofs.Qxb6604011aDoor
