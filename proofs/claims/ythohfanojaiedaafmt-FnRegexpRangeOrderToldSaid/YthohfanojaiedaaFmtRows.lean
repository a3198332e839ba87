/-
  NARROWER THAN 'FOR EVERY INPUT', by the rows' own cells (each row's printed sentence says how): FnRegexpBracketModel: laid · FnRegexpRangeOrder: laid.
  DERIVED. THE GIVEN ROWS OF THIS SEAT. 2 by the template 'for every input the law returns true; each argument reads behind the call as it read before'; 0 by the template 'total and deterministic' (their statements: YthohfanojaiedaaFmtTotals.lean).
  GIVEN WITH THE SEED: the statements are not yours to turn. If you find one false, say at which input.
  Laid BY PROGRAM, IN A SANDBOX (cutbox-rows.mjs): the forced cells as the released guide's own fill.sh prints them over the translation 78f251eb666a563d… (all of the seat's roots in one cut). By AI agents, Wed Nov 11 2026. No macro, syntax, notation, axiom, sorry.
-/
import Derived.Test.YthohfanojaiedaaFmtChecked
import GoSem.PinnedTables
import GoSem.Claim
import GoSem.ClaimJoined
import GoSem.ClaimMapViews
import Derived.JoinedTies
import Derived.KernelRfl
namespace Go.Proofs.YthohfanojaiedaaFmt
/- THE CELL 'sum', in the pinned program and in every row, IS THE sha256 OF THE DUMP (.gsa) THAT YthohfanojaiedaaFmtProg.lean LOADS. Nothing in Lean hashes anything: it is a label: what it is worth is what the hold of that sum in a sandbox is worth. -/
noncomputable def Tryf.pinned : Pinned := { name := "ythohfanojaiedaafmt", sum := "78f251eb666a563d38f7bb0d15e1dfa0943fae25854386b02ee805743899a4ee", checked := Tryf.checked }
namespace Rows
def none {H : Type} : Left H := { results := [], args := [] }

/- WHAT THE LISTED PACKAGE-LEVEL VARIABLES READ AS WHEN THE CALL BEGINS. Each datum BY PROGRAM (the guide's laid-datum.mjs) off the statement by which the dump's own 'gosem.cut.vars' lays the variable. In a bare row this is a premise. The card (YthohfanojaiedaaFmtCards.lean) ties it to the program's text. -/
def laid_unicode_utf8_acceptRanges {H : Type} : DataW H := .agg [.agg [.lit (.int .u8 128), .lit (.int .u8 191)], .agg [.lit (.int .u8 160), .lit (.int .u8 191)], .agg [.lit (.int .u8 128), .lit (.int .u8 159)], .agg [.lit (.int .u8 144), .lit (.int .u8 191)], .agg [.lit (.int .u8 128), .lit (.int .u8 143)], .agg [.lit (.int .u8 0), .lit (.int .u8 0)], .agg [.lit (.int .u8 0), .lit (.int .u8 0)], .agg [.lit (.int .u8 0), .lit (.int .u8 0)], .agg [.lit (.int .u8 0), .lit (.int .u8 0)], .agg [.lit (.int .u8 0), .lit (.int .u8 0)], .agg [.lit (.int .u8 0), .lit (.int .u8 0)], .agg [.lit (.int .u8 0), .lit (.int .u8 0)], .agg [.lit (.int .u8 0), .lit (.int .u8 0)], .agg [.lit (.int .u8 0), .lit (.int .u8 0)], .agg [.lit (.int .u8 0), .lit (.int .u8 0)], .agg [.lit (.int .u8 0), .lit (.int .u8 0)]]
def laid_io_EOF {H : Type} : DataW H := .iface "*errors.errorString" (.ptr (.agg [.lit (.string [69, 79, 70])]))
/-- One of Go's own tables, pinned by name: the form's constant. -/
def laid_unicode_utf8_first : DataW Unit := Go.Pinned.utf8First
def laid_errors_errorType {H : Type} : DataW H := .iface "internal/reflectlite.rtype" (.agg [.ptr (.lit (.string [101, 114, 114, 111, 114]))])

/-- 'n010_86.FnRegexpBracketModel': WHATEVER THE INPUT: true; the input reads as it did. -/
def fnRegexpBracketModelSpec : ChangeSpec := { name := "fnRegexpBracketModel", fn := fun _ => fun
  | [d1, d2] => { results := [.lit (.bool true)], args := [d1, d2] }
  | _ => none }
def fnRegexpBracketModelRow : OpenClaim := { program := "ythohfanojaiedaafmt", sum := "78f251eb666a563d38f7bb0d15e1dfa0943fae25854386b02ee805743899a4ee", func := "mvdan.cc/sh/v3/n010_86.FnRegexpBracketModel", spec := "fnRegexpBracketModel", stops := ["fmt.Sprintf", "fmt.errorf"], inPlace := ["internal/abi.NoEscape", "fmt.Sprintf", "fmt.errorf"], unfollowed := true, recurses := true, named := ["io.EOF", "unicode/utf8.first", "unicode/utf8.acceptRanges"], apart := false, laid := [("unicode/utf8.acceptRanges", laid_unicode_utf8_acceptRanges), ("io.EOF", laid_io_EOF), ("unicode/utf8.first", laid_unicode_utf8_first)] }
/-- NO THEOREM (fmt's text is open here; it may be false): for the released tool's asking of the row's closed facts alone. THE STATEMENT IS 'FnRegexpBracketModelToldSaid' (YthohfanojaiedaaFmtCards.lean). -/
def FnRegexpBracketModelFormAsk : Prop := fnRegexpBracketModelRow.holds Tryf.pinned (OpenSpec.ofChange fnRegexpBracketModelSpec)

/-- ITS FALSE NEIGHBOUR: 'it returns false'. Refute it at one input. -/
def fnRegexpBracketModelWrong : ChangeSpec := { name := "fnRegexpBracketModel", fn := fun _ => fun
  | [d1, d2] => { results := [.lit (.bool false)], args := [d1, d2] }
  | _ => none }
def FnRegexpBracketModelWrongFormAsk : Prop := fnRegexpBracketModelRow.holds Tryf.pinned (OpenSpec.ofChange fnRegexpBracketModelWrong)

/-- 'n010_86.FnRegexpRangeOrder': WHATEVER THE INPUT: true; the input reads as it did. -/
def fnRegexpRangeOrderSpec : ChangeSpec := { name := "fnRegexpRangeOrder", fn := fun _ => fun
  | [d1, d2, d3, d4] => { results := [.lit (.bool true)], args := [d1, d2, d3, d4] }
  | _ => none }
def fnRegexpRangeOrderRow : OpenClaim := { program := "ythohfanojaiedaafmt", sum := "78f251eb666a563d38f7bb0d15e1dfa0943fae25854386b02ee805743899a4ee", func := "mvdan.cc/sh/v3/n010_86.FnRegexpRangeOrder", spec := "fnRegexpRangeOrder", stops := ["fmt.Sprintf", "fmt.errorf"], inPlace := ["internal/abi.NoEscape", "fmt.Sprintf", "fmt.errorf", "internal/reflectlite.ValueOf", "(internal/reflectlite.Value).Type", "(internal/reflectlite.Value).IsNil", "internal/reflectlite.TypeOf", "(internal/reflectlite.Value).Elem", "(internal/reflectlite.Value).Set"], unfollowed := true, recurses := true, named := ["io.EOF", "unicode/utf8.first", "unicode/utf8.acceptRanges", "errors.errorType"], apart := false, laid := [("unicode/utf8.acceptRanges", laid_unicode_utf8_acceptRanges), ("errors.errorType", laid_errors_errorType), ("io.EOF", laid_io_EOF), ("unicode/utf8.first", laid_unicode_utf8_first)] }
/-- NO THEOREM (fmt's text is open here; it may be false): for the released tool's asking of the row's closed facts alone. THE STATEMENT IS 'FnRegexpRangeOrderToldSaid' (YthohfanojaiedaaFmtCards.lean). -/
def FnRegexpRangeOrderFormAsk : Prop := fnRegexpRangeOrderRow.holds Tryf.pinned (OpenSpec.ofChange fnRegexpRangeOrderSpec)

/-- ITS FALSE NEIGHBOUR: 'it returns false'. Refute it at one input. -/
def fnRegexpRangeOrderWrong : ChangeSpec := { name := "fnRegexpRangeOrder", fn := fun _ => fun
  | [d1, d2, d3, d4] => { results := [.lit (.bool false)], args := [d1, d2, d3, d4] }
  | _ => none }
def FnRegexpRangeOrderWrongFormAsk : Prop := fnRegexpRangeOrderRow.holds Tryf.pinned (OpenSpec.ofChange fnRegexpRangeOrderWrong)

end Rows
end Go.Proofs.YthohfanojaiedaaFmt
