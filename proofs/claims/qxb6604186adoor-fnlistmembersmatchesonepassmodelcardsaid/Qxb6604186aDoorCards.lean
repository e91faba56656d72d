/-
  DERIVED. GIVEN WITH THE SEED: THE CARDS: each row of Qxb6604186aDoorRows.lean that lists a variable, with what it lists TIED to the program's text (the seventh form; the later family's looks); each row that meets fmt, with fmt's text TOLD by the authors' own Lean function (tested against real Go, not proved from fmt's source: count such statements apart). THE CARD IS WHAT COUNTS. Prove the row's statement (the work); the ties are given (Qxb6604186aDoorTie.lean); close each card by the builder's one call (the guide's Derived/Test/ToyasCard.lean, 'card_holds'). Laid BY PROGRAM, IN A SANDBOX (cutbox-door.mjs). By AI agents, Wed Nov 11 2026. No macro, syntax, notation, axiom, sorry.
-/
import Derived.Test.Qxb6604186aDoorRows
import GoSem.ClaimSeven
namespace Go.Proofs.Qxb6604186aDoor
namespace Rows

/-- THE TIED CARD OF 'zzlaws_root_b1.FnListMembersMatchesOnePassModel'. -/
def fnListMembersMatchesOnePassModelCard : Claim7 := { stood := { row := fnListMembersMatchesOnePassModelRow, standIns := [], harness := (true, "dc23903f69bcd53a9dd6d221bf400f6aceec25288c9a094305b0150a20e22e23"), looks := false }, kinds := [], alts := [], laidByText := true, laidKinds := [.data, .pinned], laidTests := true, laidLooks := .later }
def FnListMembersMatchesOnePassModelCardSaid : Prop := Claim7.holds Tryd.pinned (.plain (OpenSpec.ofChange fnListMembersMatchesOnePassModelSpec)) fnListMembersMatchesOnePassModelCard
end Rows
end Go.Proofs.Qxb6604186aDoor
