/-
  DERIVED. GIVEN WITH THE SEED: THE CARDS: each row of Qxb6604794aDoorRows.lean that lists a variable, with what it lists TIED to the program's text (the seventh form; the later family's looks); each row that meets fmt, with fmt's text TOLD by the authors' own Lean function (tested against real Go, not proved from fmt's source: count such statements apart). THE CARD IS WHAT COUNTS. Prove the row's statement (the work); the ties are given (Qxb6604794aDoorTie.lean); close each card by the builder's one call (the guide's Derived/Test/ToyasCard.lean, 'card_holds'). Laid BY PROGRAM, IN A SANDBOX (cutbox-door.mjs). By AI agents, Wed Nov 11 2026. No macro, syntax, notation, axiom, sorry.
-/
import Derived.Test.Qxb6604794aDoorRows
import GoSem.ClaimSeven
namespace Go.Proofs.Qxb6604794aDoor
namespace Rows

/-- THE TIED CARD OF 'zzlaws_internal_access_b1.FnRuleSetAllowsMatchesFlatScan'. -/
def fnRuleSetAllowsMatchesFlatScanCard : Claim7 := { stood := { row := fnRuleSetAllowsMatchesFlatScanRow, standIns := [], harness := (true, "780af5c7a7f03bab429b492cd6654ca3b796ea0f78aa86227772164d6332f352"), looks := false }, kinds := [], alts := [], laidByText := true, laidKinds := [.data, .pinned], laidTests := true, laidLooks := .later }
def FnRuleSetAllowsMatchesFlatScanCardSaid : Prop := Claim7.holds Tryd.pinned (.plain (OpenSpec.ofChange fnRuleSetAllowsMatchesFlatScanSpec)) fnRuleSetAllowsMatchesFlatScanCard

/-- THE TIED CARD OF 'zzlaws_internal_access_b1.FnRuleSetAllowsWriteImpliesReadAndLongerKeys'. -/
def fnRuleSetAllowsWriteImpliesReadAndLongerKeysCard : Claim7 := { stood := { row := fnRuleSetAllowsWriteImpliesReadAndLongerKeysRow, standIns := [], harness := (true, "780af5c7a7f03bab429b492cd6654ca3b796ea0f78aa86227772164d6332f352"), looks := false }, kinds := [], alts := [], laidByText := true, laidKinds := [.data, .pinned], laidTests := true, laidLooks := .later }
def FnRuleSetAllowsWriteImpliesReadAndLongerKeysCardSaid : Prop := Claim7.holds Tryd.pinned (.plain (OpenSpec.ofChange fnRuleSetAllowsWriteImpliesReadAndLongerKeysSpec)) fnRuleSetAllowsWriteImpliesReadAndLongerKeysCard

/-- THE TIED CARD OF 'zzlaws_internal_access_b1.FnRuleSetAddOrderAndRepeatFree'. -/
def fnRuleSetAddOrderAndRepeatFreeCard : Claim7 := { stood := { row := fnRuleSetAddOrderAndRepeatFreeRow, standIns := [], harness := (true, "780af5c7a7f03bab429b492cd6654ca3b796ea0f78aa86227772164d6332f352"), looks := false }, kinds := [], alts := [], laidByText := true, laidKinds := [.data, .pinned], laidTests := true, laidLooks := .later }
def FnRuleSetAddOrderAndRepeatFreeCardSaid : Prop := Claim7.holds Tryd.pinned (.plain (OpenSpec.ofChange fnRuleSetAddOrderAndRepeatFreeSpec)) fnRuleSetAddOrderAndRepeatFreeCard
end Rows
end Go.Proofs.Qxb6604794aDoor
