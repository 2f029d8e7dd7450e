/-
  NARROWER THAN 'FOR EVERY INPUT', by the rows' own cells (each row's printed sentence says how): FnLineSpec: laid · FnLineReassembles: laid · FnLineChunkedAgreesWithWhole: laid.
  DERIVED. THE GIVEN ROWS OF THIS SEAT. 3 by the template 'for every input the law returns true; each argument reads behind the call as it read before'; 0 by the template 'total and deterministic' (their statements: Qxb6000009aDoorTotals.lean).
  GIVEN WITH THE SEED: the statements are not yours to turn. If you find one false, say at which input.
  Laid BY PROGRAM, IN A SANDBOX (cutbox-rows.mjs): the forced cells as the released guide's own fill.sh prints them over the translation e9eb5390426c4074… (all of the seat's roots in one cut). By AI agents, Wed Nov 11 2026. No macro, syntax, notation, axiom, sorry.
-/
import Derived.Test.Qxb6000009aDoorChecked
import GoSem.PinnedTables
import GoSem.Claim
import GoSem.ClaimJoined
import GoSem.ClaimMapViews
import Derived.JoinedTies
import Derived.KernelRfl
namespace Go.Proofs.Qxb6000009aDoor
/- THE CELL 'sum', in the pinned program and in every row, IS THE sha256 OF THE DUMP (.gsa) THAT Qxb6000009aDoorProg.lean LOADS. Nothing in Lean hashes anything: it is a label: what it is worth is what the hold of that sum in a sandbox is worth. -/
noncomputable def Tryd.pinned : Pinned := { name := "qxb6000009adoor", sum := "e9eb5390426c4074671c3db6cb85b2b079aa7d3b280f4ecc98b166d8b0c8a5e6", checked := Tryd.checked }
namespace Rows
def none {H : Type} : Left H := { results := [], args := [] }

/- WHAT THE LISTED PACKAGE-LEVEL VARIABLES READ AS WHEN THE CALL BEGINS. Each datum BY PROGRAM (the guide's laid-datum.mjs) off the statement by which the dump's own 'gosem.cut.vars' lays the variable. In a bare row this is a premise. The card (Qxb6000009aDoorCards.lean) ties it to the program's text. -/
def laid_unicode_utf8_acceptRanges {H : Type} : DataW H := .agg [.agg [.lit (.int .u8 128), .lit (.int .u8 191)], .agg [.lit (.int .u8 160), .lit (.int .u8 191)], .agg [.lit (.int .u8 128), .lit (.int .u8 159)], .agg [.lit (.int .u8 144), .lit (.int .u8 191)], .agg [.lit (.int .u8 128), .lit (.int .u8 143)], .agg [.lit (.int .u8 0), .lit (.int .u8 0)], .agg [.lit (.int .u8 0), .lit (.int .u8 0)], .agg [.lit (.int .u8 0), .lit (.int .u8 0)], .agg [.lit (.int .u8 0), .lit (.int .u8 0)], .agg [.lit (.int .u8 0), .lit (.int .u8 0)], .agg [.lit (.int .u8 0), .lit (.int .u8 0)], .agg [.lit (.int .u8 0), .lit (.int .u8 0)], .agg [.lit (.int .u8 0), .lit (.int .u8 0)], .agg [.lit (.int .u8 0), .lit (.int .u8 0)], .agg [.lit (.int .u8 0), .lit (.int .u8 0)], .agg [.lit (.int .u8 0), .lit (.int .u8 0)]]
/-- One of Go's own tables, pinned by name: the form's constant. -/
def laid_unicode_utf8_first : DataW Unit := Go.Pinned.utf8First

/-- 'zzlaws_root_b1.FnLineSpec': WHATEVER THE INPUT: true; the input reads as it did. -/
def fnLineSpecSpec : ChangeSpec := { name := "fnLineSpec", fn := fun _ => fun
  | [d1, d2, d3, d4] => { results := [.lit (.bool true)], args := [d1, d2, d3, d4] }
  | _ => none }
def fnLineSpecRow : OpenClaim := { program := "qxb6000009adoor", sum := "e9eb5390426c4074671c3db6cb85b2b079aa7d3b280f4ecc98b166d8b0c8a5e6", func := "example.com/wait-or-fail/wait-or-fail/zzlaws_root_b1.FnLineSpec", spec := "fnLineSpec", inPlace := ["internal/bytealg.IndexByteString", "internal/bytealg.IndexByte", "internal/bytealg.Index", "internal/bytealg.IndexString"], named := ["internal/bytealg.MaxLen", "unicode/utf8.first", "unicode/utf8.acceptRanges"], apart := false, laid := [("unicode/utf8.acceptRanges", laid_unicode_utf8_acceptRanges), ("unicode/utf8.first", laid_unicode_utf8_first)] }
def FnLineSpecSaid : Prop := fnLineSpecRow.holds Tryd.pinned (OpenSpec.ofChange fnLineSpecSpec)

/-- ITS FALSE NEIGHBOUR: 'it returns false'. Refute it at one input. -/
def fnLineSpecWrong : ChangeSpec := { name := "fnLineSpec", fn := fun _ => fun
  | [d1, d2, d3, d4] => { results := [.lit (.bool false)], args := [d1, d2, d3, d4] }
  | _ => none }
def FnLineSpecWrongFalsely : Prop := fnLineSpecRow.holds Tryd.pinned (OpenSpec.ofChange fnLineSpecWrong)

/-- 'zzlaws_root_b1.FnLineReassembles': WHATEVER THE INPUT: true; the input reads as it did. -/
def fnLineReassemblesSpec : ChangeSpec := { name := "fnLineReassembles", fn := fun _ => fun
  | [d] => { results := [.lit (.bool true)], args := [d] }
  | _ => none }
def fnLineReassemblesRow : OpenClaim := { program := "qxb6000009adoor", sum := "e9eb5390426c4074671c3db6cb85b2b079aa7d3b280f4ecc98b166d8b0c8a5e6", func := "example.com/wait-or-fail/wait-or-fail/zzlaws_root_b1.FnLineReassembles", spec := "fnLineReassembles", inPlace := ["internal/bytealg.IndexByteString", "internal/bytealg.IndexByte", "internal/bytealg.Index", "internal/bytealg.IndexString"], named := ["internal/bytealg.MaxLen", "unicode/utf8.first", "unicode/utf8.acceptRanges"], apart := false, laid := [("unicode/utf8.acceptRanges", laid_unicode_utf8_acceptRanges), ("unicode/utf8.first", laid_unicode_utf8_first)] }
def FnLineReassemblesSaid : Prop := fnLineReassemblesRow.holds Tryd.pinned (OpenSpec.ofChange fnLineReassemblesSpec)

/-- ITS FALSE NEIGHBOUR: 'it returns false'. Refute it at one input. -/
def fnLineReassemblesWrong : ChangeSpec := { name := "fnLineReassembles", fn := fun _ => fun
  | [d] => { results := [.lit (.bool false)], args := [d] }
  | _ => none }
def FnLineReassemblesWrongFalsely : Prop := fnLineReassemblesRow.holds Tryd.pinned (OpenSpec.ofChange fnLineReassemblesWrong)

/-- 'zzlaws_root_b1.FnLineChunkedAgreesWithWhole': WHATEVER THE INPUT: true; the input reads as it did. -/
def fnLineChunkedAgreesWithWholeSpec : ChangeSpec := { name := "fnLineChunkedAgreesWithWhole", fn := fun _ => fun
  | [d1, d2] => { results := [.lit (.bool true)], args := [d1, d2] }
  | _ => none }
def fnLineChunkedAgreesWithWholeRow : OpenClaim := { program := "qxb6000009adoor", sum := "e9eb5390426c4074671c3db6cb85b2b079aa7d3b280f4ecc98b166d8b0c8a5e6", func := "example.com/wait-or-fail/wait-or-fail/zzlaws_root_b1.FnLineChunkedAgreesWithWhole", spec := "fnLineChunkedAgreesWithWhole", inPlace := ["internal/bytealg.IndexByteString", "internal/bytealg.IndexByte", "internal/bytealg.Index", "internal/bytealg.IndexString"], named := ["internal/bytealg.MaxLen", "unicode/utf8.first", "unicode/utf8.acceptRanges"], apart := false, laid := [("unicode/utf8.acceptRanges", laid_unicode_utf8_acceptRanges), ("unicode/utf8.first", laid_unicode_utf8_first)] }
def FnLineChunkedAgreesWithWholeSaid : Prop := fnLineChunkedAgreesWithWholeRow.holds Tryd.pinned (OpenSpec.ofChange fnLineChunkedAgreesWithWholeSpec)

/-- ITS FALSE NEIGHBOUR: 'it returns false'. Refute it at one input. -/
def fnLineChunkedAgreesWithWholeWrong : ChangeSpec := { name := "fnLineChunkedAgreesWithWhole", fn := fun _ => fun
  | [d1, d2] => { results := [.lit (.bool false)], args := [d1, d2] }
  | _ => none }
def FnLineChunkedAgreesWithWholeWrongFalsely : Prop := fnLineChunkedAgreesWithWholeRow.holds Tryd.pinned (OpenSpec.ofChange fnLineChunkedAgreesWithWholeWrong)

end Rows
end Go.Proofs.Qxb6000009aDoor
