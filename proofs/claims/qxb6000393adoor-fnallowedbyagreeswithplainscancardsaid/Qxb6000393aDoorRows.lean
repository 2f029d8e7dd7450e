/-
  NARROWER THAN 'FOR EVERY INPUT', by the rows' own cells (each row's printed sentence says how): FnMatchAgreesWithTable: laid · FnMatchExtraStarKeepsMatches: laid · FnMatchConcatenates: laid · FnAllowedByAgreesWithPlainScan: laid · FnAllowedBySplitIntoPoliciesChangesNothing: laid · FnAllowedByDenyRemovesExactlyWhatItCovers: laid.
  DERIVED. THE GIVEN ROWS OF THIS SEAT. 6 by the template 'for every input the law returns true; each argument reads behind the call as it read before'; 0 by the template 'total and deterministic' (their statements: Qxb6000393aDoorTotals.lean).
  GIVEN WITH THE SEED: the statements are not yours to turn. If you find one false, say at which input.
  Laid BY PROGRAM, IN A SANDBOX (cutbox-rows.mjs): the forced cells as the released guide's own fill.sh prints them over the translation 9e577a5c7ad69ce2… (all of the seat's roots in one cut). By AI agents, Wed Nov 11 2026. No macro, syntax, notation, axiom, sorry.
-/
import Derived.Test.Qxb6000393aDoorChecked
import GoSem.PinnedTables
import GoSem.Claim
import GoSem.ClaimJoined
import GoSem.ClaimMapViews
import Derived.JoinedTies
import Derived.KernelRfl
namespace Go.Proofs.Qxb6000393aDoor
/- THE CELL 'sum', in the pinned program and in every row, IS THE sha256 OF THE DUMP (.gsa) THAT Qxb6000393aDoorProg.lean LOADS. Nothing in Lean hashes anything: it is a label: what it is worth is what the hold of that sum in a sandbox is worth. -/
noncomputable def Tryd.pinned : Pinned := { name := "qxb6000393adoor", sum := "9e577a5c7ad69ce2894b2fabda5ddef95173f91377d3f3f714727092687f9f45", checked := Tryd.checked }
namespace Rows
def none {H : Type} : Left H := { results := [], args := [] }

/- WHAT THE LISTED PACKAGE-LEVEL VARIABLES READ AS WHEN THE CALL BEGINS. Each datum BY PROGRAM (the guide's laid-datum.mjs) off the statement by which the dump's own 'gosem.cut.vars' lays the variable. In a bare row this is a premise. The card (Qxb6000393aDoorCards.lean) ties it to the program's text. -/
def laid_unicode_utf8_acceptRanges {H : Type} : DataW H := .agg [.agg [.lit (.int .u8 128), .lit (.int .u8 191)], .agg [.lit (.int .u8 160), .lit (.int .u8 191)], .agg [.lit (.int .u8 128), .lit (.int .u8 159)], .agg [.lit (.int .u8 144), .lit (.int .u8 191)], .agg [.lit (.int .u8 128), .lit (.int .u8 143)], .agg [.lit (.int .u8 0), .lit (.int .u8 0)], .agg [.lit (.int .u8 0), .lit (.int .u8 0)], .agg [.lit (.int .u8 0), .lit (.int .u8 0)], .agg [.lit (.int .u8 0), .lit (.int .u8 0)], .agg [.lit (.int .u8 0), .lit (.int .u8 0)], .agg [.lit (.int .u8 0), .lit (.int .u8 0)], .agg [.lit (.int .u8 0), .lit (.int .u8 0)], .agg [.lit (.int .u8 0), .lit (.int .u8 0)], .agg [.lit (.int .u8 0), .lit (.int .u8 0)], .agg [.lit (.int .u8 0), .lit (.int .u8 0)], .agg [.lit (.int .u8 0), .lit (.int .u8 0)]]
/-- One of Go's own tables, pinned by name: the form's constant. -/
def laid_unicode_utf8_first : DataW Unit := Go.Pinned.utf8First

/-- 'zzlaws_root_b1.FnMatchAgreesWithTable': WHATEVER THE INPUT: true; the input reads as it did. -/
def fnMatchAgreesWithTableSpec : ChangeSpec := { name := "fnMatchAgreesWithTable", fn := fun _ => fun
  | [d1, d2] => { results := [.lit (.bool true)], args := [d1, d2] }
  | _ => none }
def fnMatchAgreesWithTableRow : OpenClaim := { program := "qxb6000393adoor", sum := "9e577a5c7ad69ce2894b2fabda5ddef95173f91377d3f3f714727092687f9f45", func := "example.com/entitlement-service/entitlement-service/zzlaws_root_b1.FnMatchAgreesWithTable", spec := "fnMatchAgreesWithTable", inPlace := ["internal/bytealg.IndexByteString", "internal/bytealg.IndexString"], unfollowed := true, recurses := true, named := ["internal/bytealg.MaxLen", "unicode/utf8.first", "unicode/utf8.acceptRanges"], apart := false, laid := [("unicode/utf8.acceptRanges", laid_unicode_utf8_acceptRanges), ("unicode/utf8.first", laid_unicode_utf8_first)] }
def FnMatchAgreesWithTableSaid : Prop := fnMatchAgreesWithTableRow.holds Tryd.pinned (OpenSpec.ofChange fnMatchAgreesWithTableSpec)

/-- ITS FALSE NEIGHBOUR: 'it returns false'. Refute it at one input. -/
def fnMatchAgreesWithTableWrong : ChangeSpec := { name := "fnMatchAgreesWithTable", fn := fun _ => fun
  | [d1, d2] => { results := [.lit (.bool false)], args := [d1, d2] }
  | _ => none }
def FnMatchAgreesWithTableWrongFalsely : Prop := fnMatchAgreesWithTableRow.holds Tryd.pinned (OpenSpec.ofChange fnMatchAgreesWithTableWrong)

/-- 'zzlaws_root_b1.FnMatchExtraStarKeepsMatches': WHATEVER THE INPUT: true; the input reads as it did. -/
def fnMatchExtraStarKeepsMatchesSpec : ChangeSpec := { name := "fnMatchExtraStarKeepsMatches", fn := fun _ => fun
  | [d1, d2, d3] => { results := [.lit (.bool true)], args := [d1, d2, d3] }
  | _ => none }
def fnMatchExtraStarKeepsMatchesRow : OpenClaim := { program := "qxb6000393adoor", sum := "9e577a5c7ad69ce2894b2fabda5ddef95173f91377d3f3f714727092687f9f45", func := "example.com/entitlement-service/entitlement-service/zzlaws_root_b1.FnMatchExtraStarKeepsMatches", spec := "fnMatchExtraStarKeepsMatches", inPlace := ["internal/bytealg.IndexByteString", "internal/bytealg.IndexString"], unfollowed := true, recurses := true, named := ["internal/bytealg.MaxLen", "unicode/utf8.first", "unicode/utf8.acceptRanges"], apart := false, laid := [("unicode/utf8.acceptRanges", laid_unicode_utf8_acceptRanges), ("unicode/utf8.first", laid_unicode_utf8_first)] }
def FnMatchExtraStarKeepsMatchesSaid : Prop := fnMatchExtraStarKeepsMatchesRow.holds Tryd.pinned (OpenSpec.ofChange fnMatchExtraStarKeepsMatchesSpec)

/-- ITS FALSE NEIGHBOUR: 'it returns false'. Refute it at one input. -/
def fnMatchExtraStarKeepsMatchesWrong : ChangeSpec := { name := "fnMatchExtraStarKeepsMatches", fn := fun _ => fun
  | [d1, d2, d3] => { results := [.lit (.bool false)], args := [d1, d2, d3] }
  | _ => none }
def FnMatchExtraStarKeepsMatchesWrongFalsely : Prop := fnMatchExtraStarKeepsMatchesRow.holds Tryd.pinned (OpenSpec.ofChange fnMatchExtraStarKeepsMatchesWrong)

/-- 'zzlaws_root_b1.FnMatchConcatenates': WHATEVER THE INPUT: true; the input reads as it did. -/
def fnMatchConcatenatesSpec : ChangeSpec := { name := "fnMatchConcatenates", fn := fun _ => fun
  | [d1, d2, d3, d4] => { results := [.lit (.bool true)], args := [d1, d2, d3, d4] }
  | _ => none }
def fnMatchConcatenatesRow : OpenClaim := { program := "qxb6000393adoor", sum := "9e577a5c7ad69ce2894b2fabda5ddef95173f91377d3f3f714727092687f9f45", func := "example.com/entitlement-service/entitlement-service/zzlaws_root_b1.FnMatchConcatenates", spec := "fnMatchConcatenates", inPlace := ["internal/bytealg.IndexByteString", "internal/bytealg.IndexString"], unfollowed := true, recurses := true, named := ["internal/bytealg.MaxLen", "unicode/utf8.first", "unicode/utf8.acceptRanges"], apart := false, laid := [("unicode/utf8.acceptRanges", laid_unicode_utf8_acceptRanges), ("unicode/utf8.first", laid_unicode_utf8_first)] }
def FnMatchConcatenatesSaid : Prop := fnMatchConcatenatesRow.holds Tryd.pinned (OpenSpec.ofChange fnMatchConcatenatesSpec)

/-- ITS FALSE NEIGHBOUR: 'it returns false'. Refute it at one input. -/
def fnMatchConcatenatesWrong : ChangeSpec := { name := "fnMatchConcatenates", fn := fun _ => fun
  | [d1, d2, d3, d4] => { results := [.lit (.bool false)], args := [d1, d2, d3, d4] }
  | _ => none }
def FnMatchConcatenatesWrongFalsely : Prop := fnMatchConcatenatesRow.holds Tryd.pinned (OpenSpec.ofChange fnMatchConcatenatesWrong)

/-- 'zzlaws_root_b1.FnAllowedByAgreesWithPlainScan': WHATEVER THE INPUT: true; the input reads as it did. -/
def fnAllowedByAgreesWithPlainScanSpec : ChangeSpec := { name := "fnAllowedByAgreesWithPlainScan", fn := fun _ => fun
  | [d1, d2, d3] => { results := [.lit (.bool true)], args := [d1, d2, d3] }
  | _ => none }
def fnAllowedByAgreesWithPlainScanRow : OpenClaim := { program := "qxb6000393adoor", sum := "9e577a5c7ad69ce2894b2fabda5ddef95173f91377d3f3f714727092687f9f45", func := "example.com/entitlement-service/entitlement-service/zzlaws_root_b1.FnAllowedByAgreesWithPlainScan", spec := "fnAllowedByAgreesWithPlainScan", inPlace := ["internal/bytealg.IndexByteString", "internal/bytealg.IndexString"], unfollowed := true, recurses := true, named := ["internal/bytealg.MaxLen", "unicode/utf8.first", "unicode/utf8.acceptRanges"], apart := false, laid := [("unicode/utf8.acceptRanges", laid_unicode_utf8_acceptRanges), ("unicode/utf8.first", laid_unicode_utf8_first)] }
def FnAllowedByAgreesWithPlainScanSaid : Prop := fnAllowedByAgreesWithPlainScanRow.holds Tryd.pinned (OpenSpec.ofChange fnAllowedByAgreesWithPlainScanSpec)

/-- ITS FALSE NEIGHBOUR: 'it returns false'. Refute it at one input. -/
def fnAllowedByAgreesWithPlainScanWrong : ChangeSpec := { name := "fnAllowedByAgreesWithPlainScan", fn := fun _ => fun
  | [d1, d2, d3] => { results := [.lit (.bool false)], args := [d1, d2, d3] }
  | _ => none }
def FnAllowedByAgreesWithPlainScanWrongFalsely : Prop := fnAllowedByAgreesWithPlainScanRow.holds Tryd.pinned (OpenSpec.ofChange fnAllowedByAgreesWithPlainScanWrong)

/-- 'zzlaws_root_b1.FnAllowedBySplitIntoPoliciesChangesNothing': WHATEVER THE INPUT: true; the input reads as it did. -/
def fnAllowedBySplitIntoPoliciesChangesNothingSpec : ChangeSpec := { name := "fnAllowedBySplitIntoPoliciesChangesNothing", fn := fun _ => fun
  | [d1, d2, d3] => { results := [.lit (.bool true)], args := [d1, d2, d3] }
  | _ => none }
def fnAllowedBySplitIntoPoliciesChangesNothingRow : OpenClaim := { program := "qxb6000393adoor", sum := "9e577a5c7ad69ce2894b2fabda5ddef95173f91377d3f3f714727092687f9f45", func := "example.com/entitlement-service/entitlement-service/zzlaws_root_b1.FnAllowedBySplitIntoPoliciesChangesNothing", spec := "fnAllowedBySplitIntoPoliciesChangesNothing", inPlace := ["internal/bytealg.IndexByteString", "internal/bytealg.IndexString"], unfollowed := true, recurses := true, named := ["internal/bytealg.MaxLen", "unicode/utf8.first", "unicode/utf8.acceptRanges"], apart := false, laid := [("unicode/utf8.acceptRanges", laid_unicode_utf8_acceptRanges), ("unicode/utf8.first", laid_unicode_utf8_first)] }
def FnAllowedBySplitIntoPoliciesChangesNothingSaid : Prop := fnAllowedBySplitIntoPoliciesChangesNothingRow.holds Tryd.pinned (OpenSpec.ofChange fnAllowedBySplitIntoPoliciesChangesNothingSpec)

/-- ITS FALSE NEIGHBOUR: 'it returns false'. Refute it at one input. -/
def fnAllowedBySplitIntoPoliciesChangesNothingWrong : ChangeSpec := { name := "fnAllowedBySplitIntoPoliciesChangesNothing", fn := fun _ => fun
  | [d1, d2, d3] => { results := [.lit (.bool false)], args := [d1, d2, d3] }
  | _ => none }
def FnAllowedBySplitIntoPoliciesChangesNothingWrongFalsely : Prop := fnAllowedBySplitIntoPoliciesChangesNothingRow.holds Tryd.pinned (OpenSpec.ofChange fnAllowedBySplitIntoPoliciesChangesNothingWrong)

/-- 'zzlaws_root_b1.FnAllowedByDenyRemovesExactlyWhatItCovers': WHATEVER THE INPUT: true; the input reads as it did. -/
def fnAllowedByDenyRemovesExactlyWhatItCoversSpec : ChangeSpec := { name := "fnAllowedByDenyRemovesExactlyWhatItCovers", fn := fun _ => fun
  | [d1, d2, d3, d4, d5] => { results := [.lit (.bool true)], args := [d1, d2, d3, d4, d5] }
  | _ => none }
def fnAllowedByDenyRemovesExactlyWhatItCoversRow : OpenClaim := { program := "qxb6000393adoor", sum := "9e577a5c7ad69ce2894b2fabda5ddef95173f91377d3f3f714727092687f9f45", func := "example.com/entitlement-service/entitlement-service/zzlaws_root_b1.FnAllowedByDenyRemovesExactlyWhatItCovers", spec := "fnAllowedByDenyRemovesExactlyWhatItCovers", inPlace := ["internal/bytealg.IndexByteString", "internal/bytealg.IndexString"], unfollowed := true, recurses := true, named := ["internal/bytealg.MaxLen", "unicode/utf8.first", "unicode/utf8.acceptRanges"], apart := false, laid := [("unicode/utf8.acceptRanges", laid_unicode_utf8_acceptRanges), ("unicode/utf8.first", laid_unicode_utf8_first)] }
def FnAllowedByDenyRemovesExactlyWhatItCoversSaid : Prop := fnAllowedByDenyRemovesExactlyWhatItCoversRow.holds Tryd.pinned (OpenSpec.ofChange fnAllowedByDenyRemovesExactlyWhatItCoversSpec)

/-- ITS FALSE NEIGHBOUR: 'it returns false'. Refute it at one input. -/
def fnAllowedByDenyRemovesExactlyWhatItCoversWrong : ChangeSpec := { name := "fnAllowedByDenyRemovesExactlyWhatItCovers", fn := fun _ => fun
  | [d1, d2, d3, d4, d5] => { results := [.lit (.bool false)], args := [d1, d2, d3, d4, d5] }
  | _ => none }
def FnAllowedByDenyRemovesExactlyWhatItCoversWrongFalsely : Prop := fnAllowedByDenyRemovesExactlyWhatItCoversRow.holds Tryd.pinned (OpenSpec.ofChange fnAllowedByDenyRemovesExactlyWhatItCoversWrong)

end Rows
end Go.Proofs.Qxb6000393aDoor
