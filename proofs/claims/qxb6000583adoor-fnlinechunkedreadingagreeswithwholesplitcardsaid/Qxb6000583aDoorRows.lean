/-
  NARROWER THAN 'FOR EVERY INPUT', by the rows' own cells (each row's printed sentence says how): FnLineChunkedReadingAgreesWithWholeSplit: laid · FnLineTakesExactlyOneLine: laid.
  DERIVED. THE GIVEN ROWS OF THIS SEAT. 2 by the template 'for every input the law returns true; each argument reads behind the call as it read before'; 0 by the template 'total and deterministic' (their statements: Qxb6000583aDoorTotals.lean).
  GIVEN WITH THE SEED: the statements are not yours to turn. If you find one false, say at which input.
  Laid BY PROGRAM, IN A SANDBOX (cutbox-rows.mjs): the forced cells as the released guide's own fill.sh prints them over the translation c07067093f43f48a… (all of the seat's roots in one cut). By AI agents, Wed Nov 11 2026. No macro, syntax, notation, axiom, sorry.
-/
import Derived.Test.Qxb6000583aDoorChecked
import GoSem.PinnedTables
import GoSem.Claim
import GoSem.ClaimJoined
import GoSem.ClaimMapViews
import Derived.JoinedTies
import Derived.KernelRfl
namespace Go.Proofs.Qxb6000583aDoor
/- THE CELL 'sum', in the pinned program and in every row, IS THE sha256 OF THE DUMP (.gsa) THAT Qxb6000583aDoorProg.lean LOADS. Nothing in Lean hashes anything: it is a label: what it is worth is what the hold of that sum in a sandbox is worth. -/
noncomputable def Tryd.pinned : Pinned := { name := "qxb6000583adoor", sum := "c07067093f43f48a1dec8d6a23c62da7aa7b4172aa7042483d01b2e1722539f5", checked := Tryd.checked }
namespace Rows
def none {H : Type} : Left H := { results := [], args := [] }

/- WHAT THE LISTED PACKAGE-LEVEL VARIABLES READ AS WHEN THE CALL BEGINS. Each datum BY PROGRAM (the guide's laid-datum.mjs) off the statement by which the dump's own 'gosem.cut.vars' lays the variable. In a bare row this is a premise. The card (Qxb6000583aDoorCards.lean) ties it to the program's text. -/
def laid_unicode_utf8_acceptRanges {H : Type} : DataW H := .agg [.agg [.lit (.int .u8 128), .lit (.int .u8 191)], .agg [.lit (.int .u8 160), .lit (.int .u8 191)], .agg [.lit (.int .u8 128), .lit (.int .u8 159)], .agg [.lit (.int .u8 144), .lit (.int .u8 191)], .agg [.lit (.int .u8 128), .lit (.int .u8 143)], .agg [.lit (.int .u8 0), .lit (.int .u8 0)], .agg [.lit (.int .u8 0), .lit (.int .u8 0)], .agg [.lit (.int .u8 0), .lit (.int .u8 0)], .agg [.lit (.int .u8 0), .lit (.int .u8 0)], .agg [.lit (.int .u8 0), .lit (.int .u8 0)], .agg [.lit (.int .u8 0), .lit (.int .u8 0)], .agg [.lit (.int .u8 0), .lit (.int .u8 0)], .agg [.lit (.int .u8 0), .lit (.int .u8 0)], .agg [.lit (.int .u8 0), .lit (.int .u8 0)], .agg [.lit (.int .u8 0), .lit (.int .u8 0)], .agg [.lit (.int .u8 0), .lit (.int .u8 0)]]
/-- One of Go's own tables, pinned by name: the form's constant. -/
def laid_unicode_utf8_first : DataW Unit := Go.Pinned.utf8First

/-- 'zzlaws_root_b1.FnLineChunkedReadingAgreesWithWholeSplit': WHATEVER THE INPUT: true; the input reads as it did. -/
def fnLineChunkedReadingAgreesWithWholeSplitSpec : ChangeSpec := { name := "fnLineChunkedReadingAgreesWithWholeSplit", fn := fun _ => fun
  | [d1, d2] => { results := [.lit (.bool true)], args := [d1, d2] }
  | _ => none }
def fnLineChunkedReadingAgreesWithWholeSplitRow : OpenClaim := { program := "qxb6000583adoor", sum := "c07067093f43f48a1dec8d6a23c62da7aa7b4172aa7042483d01b2e1722539f5", func := "example.com/wait-or-fail/wait-or-fail/zzlaws_root_b1.FnLineChunkedReadingAgreesWithWholeSplit", spec := "fnLineChunkedReadingAgreesWithWholeSplit", inPlace := ["internal/bytealg.IndexByteString", "internal/bytealg.IndexByte", "internal/bytealg.Index", "internal/bytealg.IndexString"], named := ["internal/bytealg.MaxLen", "unicode/utf8.first", "unicode/utf8.acceptRanges"], apart := false, laid := [("unicode/utf8.acceptRanges", laid_unicode_utf8_acceptRanges), ("unicode/utf8.first", laid_unicode_utf8_first)] }
def FnLineChunkedReadingAgreesWithWholeSplitSaid : Prop := fnLineChunkedReadingAgreesWithWholeSplitRow.holds Tryd.pinned (OpenSpec.ofChange fnLineChunkedReadingAgreesWithWholeSplitSpec)

/-- ITS FALSE NEIGHBOUR: 'it returns false'. Refute it at one input. -/
def fnLineChunkedReadingAgreesWithWholeSplitWrong : ChangeSpec := { name := "fnLineChunkedReadingAgreesWithWholeSplit", fn := fun _ => fun
  | [d1, d2] => { results := [.lit (.bool false)], args := [d1, d2] }
  | _ => none }
def FnLineChunkedReadingAgreesWithWholeSplitWrongFalsely : Prop := fnLineChunkedReadingAgreesWithWholeSplitRow.holds Tryd.pinned (OpenSpec.ofChange fnLineChunkedReadingAgreesWithWholeSplitWrong)

/-- 'zzlaws_root_b1.FnLineTakesExactlyOneLine': WHATEVER THE INPUT: true; the input reads as it did. -/
def fnLineTakesExactlyOneLineSpec : ChangeSpec := { name := "fnLineTakesExactlyOneLine", fn := fun _ => fun
  | [d1, d2, d3, d4] => { results := [.lit (.bool true)], args := [d1, d2, d3, d4] }
  | _ => none }
def fnLineTakesExactlyOneLineRow : OpenClaim := { program := "qxb6000583adoor", sum := "c07067093f43f48a1dec8d6a23c62da7aa7b4172aa7042483d01b2e1722539f5", func := "example.com/wait-or-fail/wait-or-fail/zzlaws_root_b1.FnLineTakesExactlyOneLine", spec := "fnLineTakesExactlyOneLine", inPlace := ["internal/bytealg.IndexByteString", "internal/bytealg.IndexByte", "internal/bytealg.Index", "internal/bytealg.IndexString"], named := ["internal/bytealg.MaxLen", "unicode/utf8.first", "unicode/utf8.acceptRanges"], apart := false, laid := [("unicode/utf8.acceptRanges", laid_unicode_utf8_acceptRanges), ("unicode/utf8.first", laid_unicode_utf8_first)] }
def FnLineTakesExactlyOneLineSaid : Prop := fnLineTakesExactlyOneLineRow.holds Tryd.pinned (OpenSpec.ofChange fnLineTakesExactlyOneLineSpec)

/-- ITS FALSE NEIGHBOUR: 'it returns false'. Refute it at one input. -/
def fnLineTakesExactlyOneLineWrong : ChangeSpec := { name := "fnLineTakesExactlyOneLine", fn := fun _ => fun
  | [d1, d2, d3, d4] => { results := [.lit (.bool false)], args := [d1, d2, d3, d4] }
  | _ => none }
def FnLineTakesExactlyOneLineWrongFalsely : Prop := fnLineTakesExactlyOneLineRow.holds Tryd.pinned (OpenSpec.ofChange fnLineTakesExactlyOneLineWrong)

end Rows
end Go.Proofs.Qxb6000583aDoor
