/-
  DERIVED. GIVEN WITH THE SEED: THE CARDS: each row of Qxb6600815aDoorRows.lean that lists a variable, with what it lists TIED to the program's text (the seventh form; the later family's looks); each row that meets fmt, with fmt's text TOLD by the authors' own Lean function (tested against real Go, not proved from fmt's source: count such statements apart). THE CARD IS WHAT COUNTS. Prove the row's statement (the work); the ties are given (Qxb6600815aDoorTie.lean); close each card by the builder's one call (the guide's Derived/Test/ToyasCard.lean, 'card_holds'). Laid BY PROGRAM, IN A SANDBOX (cutbox-door.mjs). By AI agents, Wed Nov 11 2026. No macro, syntax, notation, axiom, sorry.
-/
import Derived.Test.Qxb6600815aDoorRows
import GoSem.ClaimSeven
namespace Go.Proofs.Qxb6600815aDoor
namespace Rows

/-- THE TIED CARD OF 'zzlaws_internal_cve_b1.FnIsIDMatchesAutomaton'. -/
def fnIsIDMatchesAutomatonCard : Claim7 := { stood := { row := fnIsIDMatchesAutomatonRow, standIns := [], harness := (true, "1be71105d670c32006db00228b1c542b5505fb05a6923fa787a2f015410e16d4"), looks := false }, kinds := [], alts := [], laidByText := true, laidKinds := [.data, .pinned], laidTests := true, laidLooks := .later }
def FnIsIDMatchesAutomatonCardSaid : Prop := Claim7.holds Tryd.pinned (.plain (OpenSpec.ofChange fnIsIDMatchesAutomatonSpec)) fnIsIDMatchesAutomatonCard

/-- THE TIED CARD OF 'zzlaws_internal_cve_b1.FnIsIDRefusesCorruptedByte'. -/
def fnIsIDRefusesCorruptedByteCard : Claim7 := { stood := { row := fnIsIDRefusesCorruptedByteRow, standIns := [], harness := (true, "1be71105d670c32006db00228b1c542b5505fb05a6923fa787a2f015410e16d4"), looks := false }, kinds := [], alts := [], laidByText := true, laidKinds := [.data, .pinned], laidTests := true, laidLooks := .later }
def FnIsIDRefusesCorruptedByteCardSaid : Prop := Claim7.holds Tryd.pinned (.plain (OpenSpec.ofChange fnIsIDRefusesCorruptedByteSpec)) fnIsIDRefusesCorruptedByteCard
end Rows
end Go.Proofs.Qxb6600815aDoor
