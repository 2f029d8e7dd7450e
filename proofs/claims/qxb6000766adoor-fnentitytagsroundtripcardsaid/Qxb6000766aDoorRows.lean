/-
  NARROWER THAN 'FOR EVERY INPUT', by the rows' own cells (each row's printed sentence says how): FnEntityTagsRoundTrip: laid · FnEntityTagsConcat: laid · FnEntityTagsListWellFormed: laid.
  DERIVED. THE GIVEN ROWS OF THIS SEAT. 3 by the template 'for every input the law returns true; each argument reads behind the call as it read before'; 0 by the template 'total and deterministic' (their statements: Qxb6000766aDoorTotals.lean).
  GIVEN WITH THE SEED: the statements are not yours to turn. If you find one false, say at which input.
  Laid BY PROGRAM, IN A SANDBOX (cutbox-rows.mjs): the forced cells as the released guide's own fill.sh prints them over the translation 87d0bdc59f789e3d… (all of the seat's roots in one cut). By AI agents, Wed Nov 11 2026. No macro, syntax, notation, axiom, sorry.
-/
import Derived.Test.Qxb6000766aDoorChecked
import GoSem.PinnedTables
import GoSem.Claim
import GoSem.ClaimJoined
import GoSem.ClaimMapViews
import Derived.JoinedTies
import Derived.KernelRfl
namespace Go.Proofs.Qxb6000766aDoor
/- THE CELL 'sum', in the pinned program and in every row, IS THE sha256 OF THE DUMP (.gsa) THAT Qxb6000766aDoorProg.lean LOADS. Nothing in Lean hashes anything: it is a label: what it is worth is what the hold of that sum in a sandbox is worth. -/
noncomputable def Tryd.pinned : Pinned := { name := "qxb6000766adoor", sum := "87d0bdc59f789e3d946cb01ee36680aab3e834be3dafb5eda56eb383cdfbd516", checked := Tryd.checked }
namespace Rows
def none {H : Type} : Left H := { results := [], args := [] }

/- WHAT THE LISTED PACKAGE-LEVEL VARIABLES READ AS WHEN THE CALL BEGINS. Each datum BY PROGRAM (the guide's laid-datum.mjs) off the statement by which the dump's own 'gosem.cut.vars' lays the variable. In a bare row this is a premise. The card (Qxb6000766aDoorCards.lean) ties it to the program's text. -/
def laid_unicode_utf8_acceptRanges {H : Type} : DataW H := .agg [.agg [.lit (.int .u8 128), .lit (.int .u8 191)], .agg [.lit (.int .u8 160), .lit (.int .u8 191)], .agg [.lit (.int .u8 128), .lit (.int .u8 159)], .agg [.lit (.int .u8 144), .lit (.int .u8 191)], .agg [.lit (.int .u8 128), .lit (.int .u8 143)], .agg [.lit (.int .u8 0), .lit (.int .u8 0)], .agg [.lit (.int .u8 0), .lit (.int .u8 0)], .agg [.lit (.int .u8 0), .lit (.int .u8 0)], .agg [.lit (.int .u8 0), .lit (.int .u8 0)], .agg [.lit (.int .u8 0), .lit (.int .u8 0)], .agg [.lit (.int .u8 0), .lit (.int .u8 0)], .agg [.lit (.int .u8 0), .lit (.int .u8 0)], .agg [.lit (.int .u8 0), .lit (.int .u8 0)], .agg [.lit (.int .u8 0), .lit (.int .u8 0)], .agg [.lit (.int .u8 0), .lit (.int .u8 0)], .agg [.lit (.int .u8 0), .lit (.int .u8 0)]]
/-- One of Go's own tables, pinned by name: the form's constant. -/
def laid_unicode_utf8_first : DataW Unit := Go.Pinned.utf8First

/-- 'zzlaws_internal_front_b1.FnEntityTagsRoundTrip': WHATEVER THE INPUT: true; the input reads as it did. -/
def fnEntityTagsRoundTripSpec : ChangeSpec := { name := "fnEntityTagsRoundTrip", fn := fun _ => fun
  | [d1, d2, d3, d4, d5] => { results := [.lit (.bool true)], args := [d1, d2, d3, d4, d5] }
  | _ => none }
def fnEntityTagsRoundTripRow : OpenClaim := { program := "qxb6000766adoor", sum := "87d0bdc59f789e3d946cb01ee36680aab3e834be3dafb5eda56eb383cdfbd516", func := "example.com/orbweave/orbweave/zzlaws_internal_front_b1.FnEntityTagsRoundTrip", spec := "fnEntityTagsRoundTrip", inPlace := ["internal/bytealg.IndexByteString", "internal/bytealg.IndexString"], named := ["unicode/utf8.first", "unicode/utf8.acceptRanges", "internal/bytealg.MaxLen"], apart := false, laid := [("unicode/utf8.acceptRanges", laid_unicode_utf8_acceptRanges), ("unicode/utf8.first", laid_unicode_utf8_first)] }
def FnEntityTagsRoundTripSaid : Prop := fnEntityTagsRoundTripRow.holds Tryd.pinned (OpenSpec.ofChange fnEntityTagsRoundTripSpec)

/-- ITS FALSE NEIGHBOUR: 'it returns false'. Refute it at one input. -/
def fnEntityTagsRoundTripWrong : ChangeSpec := { name := "fnEntityTagsRoundTrip", fn := fun _ => fun
  | [d1, d2, d3, d4, d5] => { results := [.lit (.bool false)], args := [d1, d2, d3, d4, d5] }
  | _ => none }
def FnEntityTagsRoundTripWrongFalsely : Prop := fnEntityTagsRoundTripRow.holds Tryd.pinned (OpenSpec.ofChange fnEntityTagsRoundTripWrong)

/-- 'zzlaws_internal_front_b1.FnEntityTagsConcat': WHATEVER THE INPUT: true; the input reads as it did. -/
def fnEntityTagsConcatSpec : ChangeSpec := { name := "fnEntityTagsConcat", fn := fun _ => fun
  | [d1, d2] => { results := [.lit (.bool true)], args := [d1, d2] }
  | _ => none }
def fnEntityTagsConcatRow : OpenClaim := { program := "qxb6000766adoor", sum := "87d0bdc59f789e3d946cb01ee36680aab3e834be3dafb5eda56eb383cdfbd516", func := "example.com/orbweave/orbweave/zzlaws_internal_front_b1.FnEntityTagsConcat", spec := "fnEntityTagsConcat", inPlace := ["internal/bytealg.IndexByteString", "internal/bytealg.IndexString"], named := ["unicode/utf8.first", "unicode/utf8.acceptRanges", "internal/bytealg.MaxLen"], apart := false, laid := [("unicode/utf8.acceptRanges", laid_unicode_utf8_acceptRanges), ("unicode/utf8.first", laid_unicode_utf8_first)] }
def FnEntityTagsConcatSaid : Prop := fnEntityTagsConcatRow.holds Tryd.pinned (OpenSpec.ofChange fnEntityTagsConcatSpec)

/-- ITS FALSE NEIGHBOUR: 'it returns false'. Refute it at one input. -/
def fnEntityTagsConcatWrong : ChangeSpec := { name := "fnEntityTagsConcat", fn := fun _ => fun
  | [d1, d2] => { results := [.lit (.bool false)], args := [d1, d2] }
  | _ => none }
def FnEntityTagsConcatWrongFalsely : Prop := fnEntityTagsConcatRow.holds Tryd.pinned (OpenSpec.ofChange fnEntityTagsConcatWrong)

/-- 'zzlaws_internal_front_b1.FnEntityTagsListWellFormed': WHATEVER THE INPUT: true; the input reads as it did. -/
def fnEntityTagsListWellFormedSpec : ChangeSpec := { name := "fnEntityTagsListWellFormed", fn := fun _ => fun
  | [d] => { results := [.lit (.bool true)], args := [d] }
  | _ => none }
def fnEntityTagsListWellFormedRow : OpenClaim := { program := "qxb6000766adoor", sum := "87d0bdc59f789e3d946cb01ee36680aab3e834be3dafb5eda56eb383cdfbd516", func := "example.com/orbweave/orbweave/zzlaws_internal_front_b1.FnEntityTagsListWellFormed", spec := "fnEntityTagsListWellFormed", inPlace := ["internal/bytealg.IndexByteString", "internal/bytealg.IndexString"], named := ["unicode/utf8.first", "unicode/utf8.acceptRanges", "internal/bytealg.MaxLen"], apart := false, laid := [("unicode/utf8.acceptRanges", laid_unicode_utf8_acceptRanges), ("unicode/utf8.first", laid_unicode_utf8_first)] }
def FnEntityTagsListWellFormedSaid : Prop := fnEntityTagsListWellFormedRow.holds Tryd.pinned (OpenSpec.ofChange fnEntityTagsListWellFormedSpec)

/-- ITS FALSE NEIGHBOUR: 'it returns false'. Refute it at one input. -/
def fnEntityTagsListWellFormedWrong : ChangeSpec := { name := "fnEntityTagsListWellFormed", fn := fun _ => fun
  | [d] => { results := [.lit (.bool false)], args := [d] }
  | _ => none }
def FnEntityTagsListWellFormedWrongFalsely : Prop := fnEntityTagsListWellFormedRow.holds Tryd.pinned (OpenSpec.ofChange fnEntityTagsListWellFormedWrong)

end Rows
end Go.Proofs.Qxb6000766aDoor
