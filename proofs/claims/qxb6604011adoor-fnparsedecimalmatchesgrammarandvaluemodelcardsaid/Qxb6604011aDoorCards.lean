/-
  DERIVED. GIVEN WITH THE SEED: THE CARDS: each row of Qxb6604011aDoorRows.lean that lists a variable, with what it lists TIED to the program's text (the seventh form; the later family's looks); each row that meets fmt, with fmt's text TOLD by the authors' own Lean function (tested against real Go, not proved from fmt's source: count such statements apart). THE CARD IS WHAT COUNTS. Prove the row's statement (the work); the ties are given (Qxb6604011aDoorTie.lean); close each card by the builder's one call (the guide's Derived/Test/ToyasCard.lean, 'card_holds'). Laid BY PROGRAM, IN A SANDBOX (cutbox-door.mjs). By AI agents, Wed Nov 11 2026. No macro, syntax, notation, axiom, sorry.
-/
import Derived.Test.Qxb6604011aDoorRows
import GoSem.ClaimSeven
namespace Go.Proofs.Qxb6604011aDoor
namespace Rows

/-- THE TIED CARD OF 'zzlaws_internal_flagset_b1.FnParseDecimalMatchesGrammarAndValueModel'. -/
def fnParseDecimalMatchesGrammarAndValueModelCard : Claim7 := { stood := { row := fnParseDecimalMatchesGrammarAndValueModelRow, standIns := [], harness := (true, "2dd4b46b42a2cd3a00265f116875e5fbd3e2afcf457aff8e4f7c146d1b0c6260"), looks := true }, kinds := [], alts := [], laidByText := true, laidKinds := [.data, .data, .data, .data, .called, .called, .pinned], laidTests := true, laidLooks := .later }
def FnParseDecimalMatchesGrammarAndValueModelCardSaid : Prop := Claim7.holds Tryd.pinned (.plain (OpenSpec.ofChange fnParseDecimalMatchesGrammarAndValueModelSpec)) fnParseDecimalMatchesGrammarAndValueModelCard

/-- THE TIED CARD OF 'zzlaws_internal_flagset_b1.FnIntegerAddMatchesSchoolbookSum'. -/
def fnIntegerAddMatchesSchoolbookSumCard : Claim7 := { stood := { row := fnIntegerAddMatchesSchoolbookSumRow, standIns := [], harness := (true, "2dd4b46b42a2cd3a00265f116875e5fbd3e2afcf457aff8e4f7c146d1b0c6260"), looks := true }, kinds := [], alts := [], laidByText := true, laidKinds := [.data, .data, .data, .data, .called, .called, .pinned], laidTests := true, laidLooks := .later }
def FnIntegerAddMatchesSchoolbookSumCardSaid : Prop := Claim7.holds Tryd.pinned (.plain (OpenSpec.ofChange fnIntegerAddMatchesSchoolbookSumSpec)) fnIntegerAddMatchesSchoolbookSumCard

/-- THE TIED CARD OF 'zzlaws_internal_flagset_b1.FnIntegerAddUndoneByMinusN'. -/
def fnIntegerAddUndoneByMinusNCard : Claim7 := { stood := { row := fnIntegerAddUndoneByMinusNRow, standIns := [], harness := (true, "2dd4b46b42a2cd3a00265f116875e5fbd3e2afcf457aff8e4f7c146d1b0c6260"), looks := true }, kinds := [], alts := [], laidByText := true, laidKinds := [.data, .data, .data, .data, .called, .called, .pinned], laidTests := true, laidLooks := .later }
def FnIntegerAddUndoneByMinusNCardSaid : Prop := Claim7.holds Tryd.pinned (.plain (OpenSpec.ofChange fnIntegerAddUndoneByMinusNSpec)) fnIntegerAddUndoneByMinusNCard
end Rows
end Go.Proofs.Qxb6604011aDoor
