/-
  NARROWER THAN 'FOR EVERY INPUT', by the rows' own cells (each row's printed sentence says how): FnRuleSetAllowsMatchesFlatScan: laid · FnRuleSetAllowsWriteImpliesReadAndLongerKeys: laid · FnRuleSetAddOrderAndRepeatFree: laid.
  DERIVED. THE GIVEN ROWS OF THIS SEAT. 3 by the template 'for every input the law returns true; each argument reads behind the call as it read before'; 0 by the template 'total and deterministic' (their statements: Qxb6604794aDoorTotals.lean).
  GIVEN WITH THE SEED: the statements are not yours to turn. If you find one false, say at which input.
  Laid BY PROGRAM, IN A SANDBOX (cutbox-rows.mjs): the forced cells as the released guide's own fill.sh prints them over the translation aa9f655c5c676d1a… (all of the seat's roots in one cut). By AI agents, Wed Nov 11 2026. No macro, syntax, notation, axiom, sorry.
-/
import Derived.Test.Qxb6604794aDoorChecked
import GoSem.PinnedTables
import GoSem.Claim
import GoSem.ClaimJoined
import GoSem.ClaimMapViews
import Derived.JoinedTies
import Derived.KernelRfl
namespace Go.Proofs.Qxb6604794aDoor
/- THE CELL 'sum', in the pinned program and in every row, IS THE sha256 OF THE DUMP (.gsa) THAT Qxb6604794aDoorProg.lean LOADS. Nothing in Lean hashes anything: it is a label: what it is worth is what the hold of that sum in a sandbox is worth. -/
noncomputable def Tryd.pinned : Pinned := { name := "qxb6604794adoor", sum := "aa9f655c5c676d1a0bdfd8c9394fb330aa1d76049cb266102ec6b57aa8815e13", checked := Tryd.checked }
namespace Rows
def none {H : Type} : Left H := { results := [], args := [] }

/- WHAT THE LISTED PACKAGE-LEVEL VARIABLES READ AS WHEN THE CALL BEGINS. Each datum BY PROGRAM (the guide's laid-datum.mjs) off the statement by which the dump's own 'gosem.cut.vars' lays the variable. In a bare row this is a premise. The card (Qxb6604794aDoorCards.lean) ties it to the program's text. -/
def laid_unicode_utf8_acceptRanges {H : Type} : DataW H := .agg [.agg [.lit (.int .u8 128), .lit (.int .u8 191)], .agg [.lit (.int .u8 160), .lit (.int .u8 191)], .agg [.lit (.int .u8 128), .lit (.int .u8 159)], .agg [.lit (.int .u8 144), .lit (.int .u8 191)], .agg [.lit (.int .u8 128), .lit (.int .u8 143)], .agg [.lit (.int .u8 0), .lit (.int .u8 0)], .agg [.lit (.int .u8 0), .lit (.int .u8 0)], .agg [.lit (.int .u8 0), .lit (.int .u8 0)], .agg [.lit (.int .u8 0), .lit (.int .u8 0)], .agg [.lit (.int .u8 0), .lit (.int .u8 0)], .agg [.lit (.int .u8 0), .lit (.int .u8 0)], .agg [.lit (.int .u8 0), .lit (.int .u8 0)], .agg [.lit (.int .u8 0), .lit (.int .u8 0)], .agg [.lit (.int .u8 0), .lit (.int .u8 0)], .agg [.lit (.int .u8 0), .lit (.int .u8 0)], .agg [.lit (.int .u8 0), .lit (.int .u8 0)]]
/-- One of Go's own tables, pinned by name: the form's constant. -/
def laid_unicode_utf8_first : DataW Unit := Go.Pinned.utf8First

/-- 'zzlaws_internal_access_b1.FnRuleSetAllowsMatchesFlatScan': WHATEVER THE INPUT: true; the input reads as it did. -/
def fnRuleSetAllowsMatchesFlatScanSpec : ChangeSpec := { name := "fnRuleSetAllowsMatchesFlatScan", fn := fun _ => fun
  | [d1, d2, d3, d4] => { results := [.lit (.bool true)], args := [d1, d2, d3, d4] }
  | _ => none }
def fnRuleSetAllowsMatchesFlatScanRow : OpenClaim := { program := "qxb6604794adoor", sum := "aa9f655c5c676d1a0bdfd8c9394fb330aa1d76049cb266102ec6b57aa8815e13", func := "example.com/keyhold/keyhold/zzlaws_internal_access_b1.FnRuleSetAllowsMatchesFlatScan", spec := "fnRuleSetAllowsMatchesFlatScan", inPlace := ["internal/bytealg.IndexByteString", "internal/bytealg.IndexString", "internal/bytealg.CountString"], named := ["internal/bytealg.MaxLen", "unicode/utf8.first", "unicode/utf8.acceptRanges"], apart := false, laid := [("unicode/utf8.acceptRanges", laid_unicode_utf8_acceptRanges), ("unicode/utf8.first", laid_unicode_utf8_first)] }
def FnRuleSetAllowsMatchesFlatScanSaid : Prop := fnRuleSetAllowsMatchesFlatScanRow.holds Tryd.pinned (OpenSpec.ofChange fnRuleSetAllowsMatchesFlatScanSpec)

/-- ITS FALSE NEIGHBOUR: 'it returns false'. Refute it at one input. -/
def fnRuleSetAllowsMatchesFlatScanWrong : ChangeSpec := { name := "fnRuleSetAllowsMatchesFlatScan", fn := fun _ => fun
  | [d1, d2, d3, d4] => { results := [.lit (.bool false)], args := [d1, d2, d3, d4] }
  | _ => none }
def FnRuleSetAllowsMatchesFlatScanWrongFalsely : Prop := fnRuleSetAllowsMatchesFlatScanRow.holds Tryd.pinned (OpenSpec.ofChange fnRuleSetAllowsMatchesFlatScanWrong)

/-- 'zzlaws_internal_access_b1.FnRuleSetAllowsWriteImpliesReadAndLongerKeys': WHATEVER THE INPUT: true; the input reads as it did. -/
def fnRuleSetAllowsWriteImpliesReadAndLongerKeysSpec : ChangeSpec := { name := "fnRuleSetAllowsWriteImpliesReadAndLongerKeys", fn := fun _ => fun
  | [d1, d2, d3, d4] => { results := [.lit (.bool true)], args := [d1, d2, d3, d4] }
  | _ => none }
def fnRuleSetAllowsWriteImpliesReadAndLongerKeysRow : OpenClaim := { program := "qxb6604794adoor", sum := "aa9f655c5c676d1a0bdfd8c9394fb330aa1d76049cb266102ec6b57aa8815e13", func := "example.com/keyhold/keyhold/zzlaws_internal_access_b1.FnRuleSetAllowsWriteImpliesReadAndLongerKeys", spec := "fnRuleSetAllowsWriteImpliesReadAndLongerKeys", inPlace := ["internal/bytealg.IndexByteString", "internal/bytealg.IndexString", "internal/bytealg.CountString"], named := ["internal/bytealg.MaxLen", "unicode/utf8.first", "unicode/utf8.acceptRanges"], apart := false, laid := [("unicode/utf8.acceptRanges", laid_unicode_utf8_acceptRanges), ("unicode/utf8.first", laid_unicode_utf8_first)] }
def FnRuleSetAllowsWriteImpliesReadAndLongerKeysSaid : Prop := fnRuleSetAllowsWriteImpliesReadAndLongerKeysRow.holds Tryd.pinned (OpenSpec.ofChange fnRuleSetAllowsWriteImpliesReadAndLongerKeysSpec)

/-- ITS FALSE NEIGHBOUR: 'it returns false'. Refute it at one input. -/
def fnRuleSetAllowsWriteImpliesReadAndLongerKeysWrong : ChangeSpec := { name := "fnRuleSetAllowsWriteImpliesReadAndLongerKeys", fn := fun _ => fun
  | [d1, d2, d3, d4] => { results := [.lit (.bool false)], args := [d1, d2, d3, d4] }
  | _ => none }
def FnRuleSetAllowsWriteImpliesReadAndLongerKeysWrongFalsely : Prop := fnRuleSetAllowsWriteImpliesReadAndLongerKeysRow.holds Tryd.pinned (OpenSpec.ofChange fnRuleSetAllowsWriteImpliesReadAndLongerKeysWrong)

/-- 'zzlaws_internal_access_b1.FnRuleSetAddOrderAndRepeatFree': WHATEVER THE INPUT: true; the input reads as it did. -/
def fnRuleSetAddOrderAndRepeatFreeSpec : ChangeSpec := { name := "fnRuleSetAddOrderAndRepeatFree", fn := fun _ => fun
  | [d1, d2, d3, d4] => { results := [.lit (.bool true)], args := [d1, d2, d3, d4] }
  | _ => none }
def fnRuleSetAddOrderAndRepeatFreeRow : OpenClaim := { program := "qxb6604794adoor", sum := "aa9f655c5c676d1a0bdfd8c9394fb330aa1d76049cb266102ec6b57aa8815e13", func := "example.com/keyhold/keyhold/zzlaws_internal_access_b1.FnRuleSetAddOrderAndRepeatFree", spec := "fnRuleSetAddOrderAndRepeatFree", inPlace := ["internal/bytealg.IndexByteString", "internal/bytealg.IndexString", "internal/bytealg.CountString"], named := ["internal/bytealg.MaxLen", "unicode/utf8.first", "unicode/utf8.acceptRanges"], apart := false, laid := [("unicode/utf8.acceptRanges", laid_unicode_utf8_acceptRanges), ("unicode/utf8.first", laid_unicode_utf8_first)] }
def FnRuleSetAddOrderAndRepeatFreeSaid : Prop := fnRuleSetAddOrderAndRepeatFreeRow.holds Tryd.pinned (OpenSpec.ofChange fnRuleSetAddOrderAndRepeatFreeSpec)

/-- ITS FALSE NEIGHBOUR: 'it returns false'. Refute it at one input. -/
def fnRuleSetAddOrderAndRepeatFreeWrong : ChangeSpec := { name := "fnRuleSetAddOrderAndRepeatFree", fn := fun _ => fun
  | [d1, d2, d3, d4] => { results := [.lit (.bool false)], args := [d1, d2, d3, d4] }
  | _ => none }
def FnRuleSetAddOrderAndRepeatFreeWrongFalsely : Prop := fnRuleSetAddOrderAndRepeatFreeRow.holds Tryd.pinned (OpenSpec.ofChange fnRuleSetAddOrderAndRepeatFreeWrong)

end Rows
end Go.Proofs.Qxb6604794aDoor
