/-
  The card of 'the rule set allows what the flat scan of the rules allows', out of the walk of the law.
-/
import Derived.Test.Qxb6604794aDoorCards
import Derived.Test.Qxb6604794aDoorTie
import Derived.Test.Qxb6604794aDoorLaw
import Derived.ProofKit
import Derived.Carry
import Derived.Deep.SlicePairs
import Derived.HandedShaped
import Derived.Lay
import Derived.LaidOnce
import Derived.SevenTiedAt
namespace Go.Proofs.Qxb6604794aDoor
open Go.ChangeShapes Go.WideShapes Go.ChangeAt Go.RowKit
open Go.ChangeMaps (open_string shut_string)

theorem own : ownKnob Tryd.prog.godebug = none := by kernel_rfl
theorem laidOut : laidOutB Tryd.prog = true := by kernel_rfl
theorem Tryd.cells27 : Tryd.prog.cellsOf 27 = 2 := by kernel_rfl
theorem Tryd.cells5 : Tryd.prog.cellsOf 5 = 1 := by kernel_rfl
theorem Tryd.cells9 : Tryd.prog.cellsOf 9 = 1 := by kernel_rfl

theorem maxL_of {W : World} (h : W.ShapedOpen Tryd.prog) : MaxL W := Tryd.laysM144.s1_3 W h

/-- the wrap that hands on both what the row lists and the world's shape -/
theorem returns_both {H : Type} {enc : TypeId × Value → H} {a : Assume} {C : Checked} {os : Os} {f : FuncId} {fn : Func} {s : ChangeSpec} {conds : List PathCond} {apart fresh handsOn again : Bool} {X : World → Array Value → Prop}
    (hX : ∀ (w w' : World) (args : Array Value), w.heap = w'.heap → X w args → X w' args)
    (own : ownKnob C.prog.godebug = none) (started : os.Started) (noInit : C.prog.inits.idxOf? f = none) (hfn : C.prog.funcs[f]? = some fn)
    (witness : ∃ (w : World) (tape : Tape) (i : Input), w.os = os ∧ (w.forCall tape i).Shaped C.prog ∧ i.vars = [] ∧ Input.okWide C.prog (w.forCall tape i) .any w.heap.size f i ∧
      ((s.pre enc C.prog fn conds apart (w.forCall tape i).memory i.args ∧ X (w.forCall tape i).memory i.args) ∧ sizedMet enc C.prog fn (OpenSpec.ofChange s) apart (w.forCall tape i).memory i.args) ∧ a.holds C.prog (lone (Frame.enter C.prog f i.args .normal) [] (w.forCall tape i)))
    (contract : ∀ (W : World) (base : Nat) (args : Array Value) (ds gs : List (DataW H)) (before : List MemPlace),
      (∀ (j : Nat) t v, fn.params[j]? = some t → args[j]? = some v → Value.okWide C.prog W .any base t v) →
      DataW.Whole enc C.prog fn.params.toList s.vars apart W args.toList ds gs before →
      conds.all (PathCond.test C.prog ⟨fn.params.toList, ds, s.plain.varTypes C.prog, gs⟩) = true →
      X W args → W.ShapedOpen C.prog →
      Calls C.prog f args W fun e W' => ∃ v, e = .returned v ∧ s.post enc C.prog fn apart fresh handsOn again W args v W') :
    ReturnsInHanded a C os f .any (fun w args => (s.pre enc C.prog fn conds apart w args ∧ X w args) ∧ sizedMet enc C.prog fn (OpenSpec.ofChange s) apart w args) (s.post enc C.prog fn apart fresh handsOn again) := by
  refine returnsInHanded_of_calls own started noInit witness ?_
  intro w tape i _ hsh _ hok hpre _
  obtain ⟨_, _, _, fn', hfn', _, _, _, _, hval⟩ := hok
  obtain rfl : fn' = fn := Option.some.inj (hfn'.symm.trans hfn)
  obtain ⟨⟨⟨ds, gs, before, hw, hc⟩, hx⟩, _⟩ := hpre
  refine (contract (w.forCall tape i) w.heap.size i.args ds gs before hval (DataW.Whole.of_heap (w' := w.forCall tape i) (by rfl) hw) hc (hX _ _ _ (by rfl) hx) hsh).mono fun e W' ⟨v, he, hp⟩ => ?_
  subst he
  exact ChangeSpec.post_blind hp

theorem add_at (b off j : Nat) : (⟨b, off, none⟩ : Addr).add j = ⟨b, off + j, none⟩ := by unfold Addr.add; split <;> simp_all

theorem u8_nat {n : Int} (h : (Lit.int .u8 n).wf = true) : ∃ m : Nat, n = m ∧ m < 256 := by
  simp only [Lit.wf, Bool.and_eq_true, decide_eq_true_eq] at h
  have h1 : (0 : Int) ≤ n := h.1
  have h2 : n ≤ (255 : Int) := h.2
  exact ⟨n.toNat, by omega, by omega⟩

/-- the rules' argument, opened -/
theorem rules_open {H : Type} {enc : TypeId × Value → H} {W : World} {a0 : Option Addr} {len cap : Nat} {fuel : Nat} {d : DataW H} {p : List MemPlace}
    (hf : DataW.trod enc Tryd.prog W 0 (fun _ => true) true fuel 22 (Value.slice a0 len cap).cells.toList = some (d, p)) (hlt : ∀ x ∈ p, x.block < W.heap.size) :
    ∃ rs, (a0 = none → len = 0 ∧ cap = 0) ∧ Ruls a0 len rs W := by
  rcases Go.Deep.open_slice_pairs Tryd.underlying22 Tryd.underlying27 Tryd.cells27 rfl rfl Tryd.cells5 Tryd.cells9 hf with ⟨hcs, _⟩ | ⟨a, len', cap', m, n, V0, V1, D0, D1, P0, P1, hcs, _, hl, _, hmm, hx, hcell⟩
  · simp [Value.cells] at hcs
    obtain ⟨rfl, rfl, rfl⟩ := hcs
    exact ⟨[], fun _ => ⟨rfl, rfl⟩, rfl, fun h => by omega⟩
  · simp [Value.cells] at hcs
    obtain ⟨rfl, rfl, rfl⟩ := hcs
    simp only [if_true] at hmm
    simp only [Prod.mk.injEq] at hx
    obtain ⟨_, hp⟩ := hx
    have each : ∀ i, i < m → ∃ ru : Nat × ByteArray, V0 i = .int .u8 ru.1 ∧ V1 i = .string ru.2 := fun i hi => by
      obtain ⟨_, _, h2, h3⟩ := hcell i hi
      obtain ⟨z, e1, _, hz⟩ := DataW.trod_int Tryd.underlying5 h2
      obtain ⟨s, e2, _, _⟩ := DataW.trod_string Tryd.underlying9 h3
      obtain ⟨k, rfl, _⟩ := u8_nat hz
      exact ⟨(k, s), by simpa using e1, by simpa using e2⟩
    obtain ⟨q, hq⟩ := Go.Deep.choose_lt each
    refine ⟨(List.range len).map q, (fun h => by cases h), by simp, fun hpos => ?_⟩
    obtain ⟨b, off, spot⟩ := a
    have hspot : spot = none := by simpa [Addr.add] using World.cell?_spot (hcell 0 (by omega)).1
    subst hspot
    have hbW : b < W.heap.size := hlt (.cell b off) (by rw [hp]; exact List.mem_append_left _ (MemPlace.mem_row.2 ⟨0, by omega, by simp⟩))
    refine ⟨b, off, rfl, hbW, fun j hj => ?_⟩
    obtain ⟨c0, c1, _, _⟩ := hcell j (by omega)
    obtain ⟨e0, e1⟩ := hq j (by omega)
    rw [add_at] at c0 c1
    have eg : ((List.range len).map q).getD j (0, ⟨#[]⟩) = q j := by simp [List.getD_eq_getElem?_getD, hj]
    rw [eg]
    exact ⟨by rw [c0, e0], by rw [Nat.add_assoc, c1, e1]⟩

/-- the key's argument, opened -/
theorem key_open {H : Type} {enc : TypeId × Value → H} {W : World} {a0 : Option Addr} {len cap : Nat} {fuel : Nat} {d : DataW H} {p : List MemPlace}
    (hf : DataW.trod enc Tryd.prog W 0 (fun _ => true) true fuel 23 (Value.slice a0 len cap).cells.toList = some (d, p)) (hlt : ∀ x ∈ p, x.block < W.heap.size) :
    ∃ K, KeyA a0 len cap K W := by
  rcases open_ints Tryd.underlying23 Tryd.underlying5 Tryd.cells5 hf with ⟨hcs, _⟩ | ⟨a, len', cap', zs, hcs, _, hl, _, hz, hx, hcell, hwf⟩
  · simp [Value.cells] at hcs
    obtain ⟨rfl, rfl, rfl⟩ := hcs
    exact ⟨[], fun _ => ⟨rfl, rfl⟩, rfl, fun h => by omega⟩
  · simp [Value.cells] at hcs
    obtain ⟨rfl, rfl, rfl⟩ := hcs
    simp only [if_true] at hz
    simp only [Prod.mk.injEq] at hx
    obtain ⟨_, hp⟩ := hx
    have each : ∀ i, i < zs.length → ∃ u : UInt8, zs.getD i 0 = (u.toNat : Int) := fun i hi => by
      have hm : zs.getD i 0 ∈ zs := by rw [List.getD_eq_getElem?_getD, List.getElem?_eq_getElem hi]; exact List.getElem_mem _
      obtain ⟨k, hk, hk2⟩ := u8_nat (hwf _ hm)
      exact ⟨UInt8.ofNat k, by rw [hk, UInt8.toNat_ofNat_of_lt' (by simpa using hk2)]⟩
    obtain ⟨q, hq⟩ := Go.Deep.choose_lt each
    refine ⟨(List.range len).map q, (fun h => by cases h), by simp, fun hpos => ?_⟩
    obtain ⟨b, off, spot⟩ := a
    have hspot : spot = none := by simpa [Addr.add] using World.cell?_spot (hcell 0 (by omega))
    subst hspot
    have hbW : b < W.heap.size := hlt (.cell b off) (by rw [hp]; exact MemPlace.mem_row.2 ⟨0, by omega, by simp⟩)
    refine ⟨b, off, rfl, hbW, fun j hj => ?_⟩
    have hj' : j < len := by simpa using hj
    have c := hcell j (by omega)
    rw [add_at, hq j (by omega)] at c
    have eg : ((List.range len).map q).getD j 0 = q j := by simp [List.getD_eq_getElem?_getD, hj']
    rw [eg]; exact c

set_option maxRecDepth 100000 in
theorem lifted (os : Os) (started : os.Started) (H : Type) (enc : TypeId × Value → H) :
    ReturnsInHanded {} Tryd.checked os 3 .any (fun w args => (Rows.fnRuleSetAllowsMatchesFlatScanSpec.pre enc Tryd.prog Tryd.f3 [] false w args ∧ laidMetH Tryd.prog Rows.fnRuleSetAllowsMatchesFlatScanRow.laid w) ∧ sizedMet enc Tryd.prog Tryd.f3 (OpenSpec.ofChange Rows.fnRuleSetAllowsMatchesFlatScanSpec) false w args)
      (Rows.fnRuleSetAllowsMatchesFlatScanSpec.post enc Tryd.prog Tryd.f3 false true false false) := by
  refine returns_both (C := Tryd.checked) (X := fun w _ => laidMetH Tryd.prog Rows.fnRuleSetAllowsMatchesFlatScanRow.laid w) (fun _ _ _ hh h => h.of_heap hh) own started (by kernel_rfl) Tryd.func3
    (ChangeSpec.witness_shaped (enc := enc) (C := Tryd.checked) (os := os) (X := fun w _ => laidMetH Tryd.prog Rows.fnRuleSetAllowsMatchesFlatScanRow.laid w) false (World.laidAll Tryd.prog os Rows.fnRuleSetAllowsMatchesFlatScanRow.laid) #[.slice none 0 0, .string ⟨#[]⟩, .bool false, .slice none 0 0] 8 (World.laidAll_os _ _ _)
      (World.shaped_of_ZipB (by kernel_rfl) (by kernel_rfl)) (by kernel_rfl) (by kernel_rfl) (by kernel_rfl)
      (by rw [MakeChecks.laidMetH_plain _ _ _ (by kernel_rfl)]; exact laidMet_laidAll _ (by kernel_rfl) (by kernel_rfl))) ?_
  intro W base args ds gs before hval0 hW _ _ hsh
  have hval : ∀ (j : Nat) t v, Tryd.f3.params[j]? = some t → args[j]? = some v → Value.okWide Tryd.prog W .any base t v := hval0
  have hW' := hW
  obtain ⟨p, q, hA0, hV, rfl, _, _⟩ := hW
  have hA : DataW.TrodAll enc Tryd.prog W 0 (fun _ => true) true Tryd.f3.params.toList args.toList ds p := hA0
  rw [Tryd.params3] at hA hval
  obtain ⟨v0, v1, v2, v3, d0, d1, d2, d3, p0, p1, p2, p3, rfl, rfl, rfl, h0, h1, h2, h3⟩ := trodAll_four hA
  obtain ⟨rfl, rfl⟩ := trodVars_none hV
  obtain ⟨a0, len, cap, rfl⟩ := okWide_slice Tryd.underlying22 (hval 0 22 v0 rfl rfl)
  obtain ⟨a3, len3, cap3, rfl⟩ := okWide_slice Tryd.underlying23 (hval 3 23 v3 rfl rfl)
  obtain ⟨cl, rfl, rfl, rfl, ws⟩ := open_string Tryd.underlying9 (hval 1 9 v1 rfl rfl) h1
  obtain ⟨wrt, rfl, rfl, rfl⟩ := open_bool Tryd.underlying4 (hval 2 4 v2 rfl rfl) h2
  have h0k := h0
  have h3k := h3
  obtain ⟨fuel, hf⟩ := h0
  obtain ⟨fuel3, hf3⟩ := h3
  clear hA0 hval0
  simp only [List.append_nil] at hW'
  have hlt : ∀ x ∈ p0 ++ p3, x.block < W.heap.size := fun x hx => by simpa using hW'.lt x hx
  have hlt0 : ∀ x ∈ p0, x.block < W.heap.size := fun x hx => hlt x (List.mem_append_left _ hx)
  have hlt3 : ∀ x ∈ p3, x.block < W.heap.size := fun x hx => hlt x (List.mem_append_right _ hx)
  obtain ⟨rs, hnil, hrs⟩ := rules_open hf hlt0
  obtain ⟨K, hK⟩ := key_open hf3 hlt3
  refine (law_walk a0 len cap rs cl wrt a3 len3 cap3 K W hnil hrs hK (maxL_of hsh)).mono fun e W' ⟨he, hb⟩ => ?_
  subst he
  refine ⟨_, rfl, _, _, _, [], p0 ++ p3, [], hW', trodAll_mk1 (shut_bool Tryd.underlying4 _), ?_, rfl, hb.frame _, fun h => by cases h⟩
  have := trodAll_mk4 (Below.trod laidOut (by kernel_rfl) (of_decide_eq_true (by kernel_rfl)) h0k hb hlt0) (shut_string Tryd.underlying9 ws) (shut_bool Tryd.underlying4 wrt) (Below.trod laidOut (by kernel_rfl) (of_decide_eq_true (by kernel_rfl)) h3k hb hlt3)
  exact this

theorem row_holds : Rows.FnRuleSetAllowsMatchesFlatScanSaid :=
  OpenClaim.holds_of_wide 3 Tryd.f3 rfl rfl rfl rfl rfl rfl rfl ⟨rfl, rfl, rfl, rfl, rfl⟩ rfl rfl rfl rfl rfl (by kernel_rfl) Tryd.func3 (by kernel_rfl)
    (of_decide_eq_true (by kernel_rfl)) (by unfold Func.isWrapper; first | (rw [if_pos (by decide +kernel)]; kernel_rfl) | (rw [if_neg (by decide +kernel)]; exact ⟨rfl, rfl⟩))
    (fun os started H enc _ => lifted os started H enc)

theorem card_holds : Rows.FnRuleSetAllowsMatchesFlatScanCardSaid :=
  Claim7.holds_tied_plain_at .later [] [.data, .pinned] true _ false row_holds (fun _ h => by cases h) (by kernel_rfl) (fun _ h => by cases h) fnRuleSetAllowsMatchesFlatScan_row_tie rfl ⟨rfl, rfl⟩ (by kernel_rfl) rfl
    (fun f fn hf hfn => by
      obtain rfl : f = 3 := Option.some.inj ((show Tryd.prog.funcNamed Rows.fnRuleSetAllowsMatchesFlatScanRow.func = some 3 by kernel_rfl).symm.trans hf) |>.symm
      obtain rfl : fn = Tryd.f3 := (Option.some.inj (Tryd.func3.symm.trans hfn)).symm
      exact ⟨by kernel_rfl, fun j t ht => by
        rw [Tryd.params3] at ht
        have hm : t ∈ [22, 9, 4, 23] := by simpa using Array.mem_of_getElem? ht
        have hall : ([22, 9, 4, 23].all fun u => !Tryd.prog.wantsStandIn u) = true := by kernel_rfl
        exact (show Tryd.prog.wantsStandIn t = false by simpa using List.all_eq_true.1 hall t hm)⟩)
    (by kernel_rfl)
end Go.Proofs.Qxb6604794aDoor
