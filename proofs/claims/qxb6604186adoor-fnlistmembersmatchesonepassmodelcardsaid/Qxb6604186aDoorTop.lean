/-
  The card of 'list members match the one-pass model', out of the walk of the law.
-/
import Derived.Test.Qxb6604186aDoorCards
import Derived.Test.Qxb6604186aDoorTie
import Derived.Test.Qxb6604186aDoorLaw
import Derived.ProofKit
import Derived.SliceStrings
import Derived.HandedShaped
import Derived.Lay
import Derived.LaidOnce
import Derived.SevenTiedAt
namespace Go.Proofs.Qxb6604186aDoor
open Go.ChangeShapes Go.WideShapes Go.ChangeAt Go.RowKit

theorem own : ownKnob Tryd.prog.godebug = none := by kernel_rfl
theorem laidOut : laidOutB Tryd.prog = true := by kernel_rfl
theorem Tryd.cells9 : Tryd.prog.cellsOf 9 = 1 := by kernel_rfl

/-- the wrap that hands on both what the row lists and the world's shape -/
theorem returns_both {H : Type} {enc : TypeId × Value → H} {a : Assume} {C : Checked} {os : Os} {f : FuncId} {fn : Func} {s : ChangeSpec} {conds : List PathCond} {apart fresh handsOn again : Bool} {X : World → Array Value → Prop}
    (hX : ∀ (w w' : World) (args : Array Value), w.heap = w'.heap → X w args → X w' args)
    (own : ownKnob C.prog.godebug = none) (started : os.Started) (noInit : C.prog.inits.idxOf? f = none) (hfn : C.prog.funcs[f]? = some fn)
    (witness : ∃ (w : World) (tape : Tape) (i : Input), w.os = os ∧ (w.forCall tape i).Shaped C.prog ∧ i.vars = [] ∧ Input.okWide C.prog (w.forCall tape i) .any w.heap.size f i ∧
      ((s.pre enc C.prog fn conds apart (w.forCall tape i).memory i.args ∧ X (w.forCall tape i).memory i.args) ∧ sizedMet enc C.prog fn (OpenSpec.ofChange s) apart (w.forCall tape i).memory i.args) ∧ a.holds C.prog (lone (Frame.enter C.prog f i.args .normal) [] (w.forCall tape i)))
    (contract : ∀ (W : World) (base : Nat) (args : Array Value) (ds gs : List (DataW H)) (before : List MemPlace),
      (∀ (j : Nat) t v, fn.params[j]? = some t → args[j]? = some v → Value.okWide C.prog W .any base t v) →
      DataW.Whole enc C.prog fn.params.toList s.vars apart W args.toList ds gs before →
      conds.all (PathCond.test C.prog ⟨fn.params.toList, ds, s.plain.varTypes C.prog, gs⟩) = true →
      X W args → W.ShapedOpen C.prog →
      Calls C.prog f args W fun e W' => ∃ v, e = .returned v ∧ s.post enc C.prog fn apart fresh handsOn again W args v W') :
    ReturnsInHanded a C os f .any (fun w args => (s.pre enc C.prog fn conds apart w args ∧ X w args) ∧ sizedMet enc C.prog fn (OpenSpec.ofChange s) apart w args) (s.post enc C.prog fn apart fresh handsOn again) := by
  refine returnsInHanded_of_calls own started noInit witness ?_
  intro w tape i _ hsh _ hok hpre _
  obtain ⟨_, _, _, fn', hfn', _, _, _, _, hval⟩ := hok
  obtain rfl : fn' = fn := Option.some.inj (hfn'.symm.trans hfn)
  obtain ⟨⟨⟨ds, gs, before, hw, hc⟩, hx⟩, _⟩ := hpre
  refine (contract (w.forCall tape i) w.heap.size i.args ds gs before hval (DataW.Whole.of_heap (w' := w.forCall tape i) (by rfl) hw) hc (hX _ _ _ (by rfl) hx) hsh).mono fun e W' ⟨v, he, hp⟩ => ?_
  subst he
  exact ChangeSpec.post_blind hp

set_option maxRecDepth 100000 in
theorem lifted (os : Os) (started : os.Started) (H : Type) (enc : TypeId × Value → H) :
    ReturnsInHanded {} Tryd.checked os 3 .any (fun w args => (Rows.fnListMembersMatchesOnePassModelSpec.pre enc Tryd.prog Tryd.f3 [] false w args ∧ laidMetH Tryd.prog Rows.fnListMembersMatchesOnePassModelRow.laid w) ∧ sizedMet enc Tryd.prog Tryd.f3 (OpenSpec.ofChange Rows.fnListMembersMatchesOnePassModelSpec) false w args)
      (Rows.fnListMembersMatchesOnePassModelSpec.post enc Tryd.prog Tryd.f3 false true false false) := by
  refine returns_both (C := Tryd.checked) (X := fun w _ => laidMetH Tryd.prog Rows.fnListMembersMatchesOnePassModelRow.laid w) (fun _ _ _ hh h => h.of_heap hh) own started (by kernel_rfl) Tryd.func3
    (ChangeSpec.witness_shaped (enc := enc) (C := Tryd.checked) (os := os) (X := fun w _ => laidMetH Tryd.prog Rows.fnListMembersMatchesOnePassModelRow.laid w) false (World.laidAll Tryd.prog os Rows.fnListMembersMatchesOnePassModelRow.laid) #[.slice none 0 0] 8 (World.laidAll_os _ _ _)
      (World.shaped_of_ZipB (by kernel_rfl) (by kernel_rfl)) (by kernel_rfl) (by kernel_rfl) (by kernel_rfl)
      (by rw [MakeChecks.laidMetH_plain _ _ _ (by kernel_rfl)]; exact laidMet_laidAll _ (by kernel_rfl) (by kernel_rfl))) ?_
  intro W base args ds gs before hval0 hW _ _ _
  have hval : ∀ (j : Nat) t v, Tryd.f3.params[j]? = some t → args[j]? = some v → Value.okWide Tryd.prog W .any base t v := hval0
  have hW' := hW
  obtain ⟨p, q, hA0, hV, rfl, _, _⟩ := hW
  have hA : DataW.TrodAll enc Tryd.prog W 0 (fun _ => true) true Tryd.f3.params.toList args.toList ds p := hA0
  rw [Tryd.params3] at hA hval
  obtain ⟨v0, d0, rfl, rfl, h0⟩ := trodAll_one hA
  obtain ⟨rfl, rfl⟩ := trodVars_none hV
  obtain ⟨a0, len, cap, rfl⟩ := okWide_slice Tryd.underlying22 (hval 0 22 v0 rfl rfl)
  have h0k := h0
  obtain ⟨fuel, hf⟩ := h0
  clear hA0 hval0
  simp only [List.append_nil] at hW'
  have hlt : ∀ x ∈ p, x.block < W.heap.size := fun x hx => by simpa using hW'.lt x hx
  -- the one end: 'true'; the argument as it was; nothing below the call's own blocks has turned
  have fin : ∀ (W' : World), Below W.heap.size W W' → Rows.fnListMembersMatchesOnePassModelSpec.post enc Tryd.checked.prog Tryd.f3 false true false false W #[.slice a0 len cap] (.bool true) W' := by
    intro W' hnx
    exact ⟨_, _, _, [], p, [], hW', trodAll_mk1 (shut_bool Tryd.underlying4 _), trodAll_mk1 (Below.trod laidOut (by kernel_rfl) (of_decide_eq_true (by kernel_rfl)) h0k hnx hlt), rfl, hnx.frame _, fun h => by cases h⟩
  have done : ∀ ls : List ByteArray, (a0 = none → len = 0 ∧ cap = 0) → Strs a0 len ls W →
      Calls Tryd.checked.prog 3 #[.slice a0 len cap] W fun e W' => ∃ v, e = Ending.returned v ∧ Rows.fnListMembersMatchesOnePassModelSpec.post enc Tryd.checked.prog Tryd.f3 false true false false W #[.slice a0 len cap] v W' := by
    intro ls hn hs
    refine (law_walk a0 len cap ls W hn hs).mono fun e W' ⟨he, hb⟩ => ?_
    subst he
    exact ⟨_, rfl, fin _ hb⟩
  rcases open_strings Tryd.underlying22 Tryd.underlying9 Tryd.cells9 hf with ⟨hcs, hx⟩ | ⟨a, len', cap', ss, hcs, _, hl, hm, hz, hx, hcell, _⟩
  · simp [Value.cells] at hcs
    obtain ⟨rfl, rfl, rfl⟩ := hcs
    exact done [] (fun _ => ⟨rfl, rfl⟩) ⟨rfl, fun h => by omega⟩
  · simp [Value.cells] at hcs
    obtain ⟨rfl, rfl, rfl⟩ := hcs
    simp only [Prod.mk.injEq] at hx
    obtain ⟨rfl, rfl⟩ := hx
    simp only [if_true] at hz
    refine done (ss.take len) (fun h => by cases h) ⟨by rw [List.length_take]; omega, fun hpos => ?_⟩
    obtain ⟨b, off, spot⟩ := a
    have hspot : spot = none := by simpa [Addr.add] using World.cell?_spot (hcell 0 (by omega))
    subst hspot
    have hbW : b < W.heap.size := hlt (.cell b off) (MemPlace.mem_row.2 ⟨0, by omega, by simp⟩)
    refine ⟨b, off, rfl, hbW, fun j hj => ?_⟩
    have hc := hcell j (by omega)
    rw [add_plain] at hc
    rw [hc, List.getD_eq_getElem?_getD, List.getD_eq_getElem?_getD, List.getElem?_take_of_lt hj]
    rfl

theorem row_holds : Rows.FnListMembersMatchesOnePassModelSaid :=
  OpenClaim.holds_of_wide 3 Tryd.f3 rfl rfl rfl rfl rfl rfl rfl ⟨rfl, rfl, rfl, rfl, rfl⟩ rfl rfl rfl rfl rfl (by kernel_rfl) Tryd.func3 (by kernel_rfl)
    (of_decide_eq_true (by kernel_rfl)) (by unfold Func.isWrapper; first | (rw [if_pos (by decide +kernel)]; kernel_rfl) | (rw [if_neg (by decide +kernel)]; exact ⟨rfl, rfl⟩))
    (fun os started H enc _ => lifted os started H enc)

theorem card_holds : Rows.FnListMembersMatchesOnePassModelCardSaid :=
  Claim7.holds_tied_plain_at .later [] [.data, .pinned] true _ false row_holds (fun _ h => by cases h) (by kernel_rfl) (fun _ h => by cases h) fnListMembersMatchesOnePassModel_row_tie rfl ⟨rfl, rfl⟩ (by kernel_rfl) rfl
    (fun f fn hf hfn => by
      obtain rfl : f = 3 := Option.some.inj ((show Tryd.prog.funcNamed Rows.fnListMembersMatchesOnePassModelRow.func = some 3 by kernel_rfl).symm.trans hf) |>.symm
      obtain rfl : fn = Tryd.f3 := (Option.some.inj (Tryd.func3.symm.trans hfn)).symm
      exact ⟨by kernel_rfl, fun j t ht => by
        rw [Tryd.params3] at ht
        have hm : t ∈ [22] := by simpa using Array.mem_of_getElem? ht
        have hall : ([22].all fun u => !Tryd.prog.wantsStandIn u) = true := by kernel_rfl
        exact (show Tryd.prog.wantsStandIn t = false by simpa using List.all_eq_true.1 hall t hm)⟩)
    (by kernel_rfl)
end Go.Proofs.Qxb6604186aDoor
