/-
  NARROWER THAN 'FOR EVERY INPUT', by the rows' own cells (each row's printed sentence says how): FnIsIDMatchesAutomaton: laid · FnIsIDRefusesCorruptedByte: laid.
  DERIVED. THE GIVEN ROWS OF THIS SEAT. 2 by the template 'for every input the law returns true; each argument reads behind the call as it read before'; 0 by the template 'total and deterministic' (their statements: Qxb6600815aDoorTotals.lean).
  GIVEN WITH THE SEED: the statements are not yours to turn. If you find one false, say at which input.
  Laid BY PROGRAM, IN A SANDBOX (cutbox-rows.mjs): the forced cells as the released guide's own fill.sh prints them over the translation 32f9d88223f65316… (all of the seat's roots in one cut). By AI agents, Wed Nov 11 2026. No macro, syntax, notation, axiom, sorry.
-/
import Derived.Test.Qxb6600815aDoorChecked
import GoSem.PinnedTables
import GoSem.Claim
import GoSem.ClaimJoined
import GoSem.ClaimMapViews
import Derived.JoinedTies
import Derived.KernelRfl
namespace Go.Proofs.Qxb6600815aDoor
/- THE CELL 'sum', in the pinned program and in every row, IS THE sha256 OF THE DUMP (.gsa) THAT Qxb6600815aDoorProg.lean LOADS. Nothing in Lean hashes anything: it is a label: what it is worth is what the hold of that sum in a sandbox is worth. -/
noncomputable def Tryd.pinned : Pinned := { name := "qxb6600815adoor", sum := "32f9d88223f65316cb3c401db99813a390e9eadc79f3727ee7c54271ed02a7e5", checked := Tryd.checked }
namespace Rows
def none {H : Type} : Left H := { results := [], args := [] }

/- WHAT THE LISTED PACKAGE-LEVEL VARIABLES READ AS WHEN THE CALL BEGINS. Each datum BY PROGRAM (the guide's laid-datum.mjs) off the statement by which the dump's own 'gosem.cut.vars' lays the variable. In a bare row this is a premise. The card (Qxb6600815aDoorCards.lean) ties it to the program's text. -/
def laid_unicode_utf8_acceptRanges {H : Type} : DataW H := .agg [.agg [.lit (.int .u8 128), .lit (.int .u8 191)], .agg [.lit (.int .u8 160), .lit (.int .u8 191)], .agg [.lit (.int .u8 128), .lit (.int .u8 159)], .agg [.lit (.int .u8 144), .lit (.int .u8 191)], .agg [.lit (.int .u8 128), .lit (.int .u8 143)], .agg [.lit (.int .u8 0), .lit (.int .u8 0)], .agg [.lit (.int .u8 0), .lit (.int .u8 0)], .agg [.lit (.int .u8 0), .lit (.int .u8 0)], .agg [.lit (.int .u8 0), .lit (.int .u8 0)], .agg [.lit (.int .u8 0), .lit (.int .u8 0)], .agg [.lit (.int .u8 0), .lit (.int .u8 0)], .agg [.lit (.int .u8 0), .lit (.int .u8 0)], .agg [.lit (.int .u8 0), .lit (.int .u8 0)], .agg [.lit (.int .u8 0), .lit (.int .u8 0)], .agg [.lit (.int .u8 0), .lit (.int .u8 0)], .agg [.lit (.int .u8 0), .lit (.int .u8 0)]]
/-- One of Go's own tables, pinned by name: the form's constant. -/
def laid_unicode_utf8_first : DataW Unit := Go.Pinned.utf8First

/-- 'zzlaws_internal_cve_b1.FnIsIDMatchesAutomaton': WHATEVER THE INPUT: true; the input reads as it did. -/
def fnIsIDMatchesAutomatonSpec : ChangeSpec := { name := "fnIsIDMatchesAutomaton", fn := fun _ => fun
  | [d] => { results := [.lit (.bool true)], args := [d] }
  | _ => none }
def fnIsIDMatchesAutomatonRow : OpenClaim := { program := "qxb6600815adoor", sum := "32f9d88223f65316cb3c401db99813a390e9eadc79f3727ee7c54271ed02a7e5", func := "example.com/strict-sandbox/strict-sandbox/zzlaws_internal_cve_b1.FnIsIDMatchesAutomaton", spec := "fnIsIDMatchesAutomaton", inPlace := ["internal/bytealg.IndexByteString", "internal/bytealg.IndexString"], named := ["internal/bytealg.MaxLen", "unicode/utf8.first", "unicode/utf8.acceptRanges"], apart := false, laid := [("unicode/utf8.acceptRanges", laid_unicode_utf8_acceptRanges), ("unicode/utf8.first", laid_unicode_utf8_first)] }
def FnIsIDMatchesAutomatonSaid : Prop := fnIsIDMatchesAutomatonRow.holds Tryd.pinned (OpenSpec.ofChange fnIsIDMatchesAutomatonSpec)

/-- ITS FALSE NEIGHBOUR: 'it returns false'. Refute it at one input. -/
def fnIsIDMatchesAutomatonWrong : ChangeSpec := { name := "fnIsIDMatchesAutomaton", fn := fun _ => fun
  | [d] => { results := [.lit (.bool false)], args := [d] }
  | _ => none }
def FnIsIDMatchesAutomatonWrongFalsely : Prop := fnIsIDMatchesAutomatonRow.holds Tryd.pinned (OpenSpec.ofChange fnIsIDMatchesAutomatonWrong)

/-- 'zzlaws_internal_cve_b1.FnIsIDRefusesCorruptedByte': WHATEVER THE INPUT: true; the input reads as it did. -/
def fnIsIDRefusesCorruptedByteSpec : ChangeSpec := { name := "fnIsIDRefusesCorruptedByte", fn := fun _ => fun
  | [d1, d2, d3] => { results := [.lit (.bool true)], args := [d1, d2, d3] }
  | _ => none }
def fnIsIDRefusesCorruptedByteRow : OpenClaim := { program := "qxb6600815adoor", sum := "32f9d88223f65316cb3c401db99813a390e9eadc79f3727ee7c54271ed02a7e5", func := "example.com/strict-sandbox/strict-sandbox/zzlaws_internal_cve_b1.FnIsIDRefusesCorruptedByte", spec := "fnIsIDRefusesCorruptedByte", inPlace := ["internal/bytealg.IndexByteString", "internal/bytealg.IndexString"], named := ["internal/bytealg.MaxLen", "unicode/utf8.first", "unicode/utf8.acceptRanges"], apart := false, laid := [("unicode/utf8.acceptRanges", laid_unicode_utf8_acceptRanges), ("unicode/utf8.first", laid_unicode_utf8_first)] }
def FnIsIDRefusesCorruptedByteSaid : Prop := fnIsIDRefusesCorruptedByteRow.holds Tryd.pinned (OpenSpec.ofChange fnIsIDRefusesCorruptedByteSpec)

/-- ITS FALSE NEIGHBOUR: 'it returns false'. Refute it at one input. -/
def fnIsIDRefusesCorruptedByteWrong : ChangeSpec := { name := "fnIsIDRefusesCorruptedByte", fn := fun _ => fun
  | [d1, d2, d3] => { results := [.lit (.bool false)], args := [d1, d2, d3] }
  | _ => none }
def FnIsIDRefusesCorruptedByteWrongFalsely : Prop := fnIsIDRefusesCorruptedByteRow.holds Tryd.pinned (OpenSpec.ofChange fnIsIDRefusesCorruptedByteWrong)

end Rows
end Go.Proofs.Qxb6600815aDoor
