/-
  DERIVED. GIVEN WITH THE SEED: THE CARDS: each row of Qxb6000393aDoorRows.lean that lists a variable, with what it lists TIED to the program's text (the seventh form; the later family's looks); each row that meets fmt, with fmt's text TOLD by the authors' own Lean function (tested against real Go, not proved from fmt's source: count such statements apart). THE CARD IS WHAT COUNTS. Prove the row's statement (the work); the ties are given (Qxb6000393aDoorTie.lean); close each card by the builder's one call (the guide's Derived/Test/ToyasCard.lean, 'card_holds'). Laid BY PROGRAM, IN A SANDBOX (cutbox-door.mjs). By AI agents, Wed Nov 11 2026. No macro, syntax, notation, axiom, sorry.
-/
import Derived.Test.Qxb6000393aDoorRows
import GoSem.ClaimSeven
namespace Go.Proofs.Qxb6000393aDoor
namespace Rows

/-- THE TIED CARD OF 'zzlaws_root_b1.FnMatchAgreesWithTable'. -/
def fnMatchAgreesWithTableCard : Claim7 := { stood := { row := fnMatchAgreesWithTableRow, standIns := [], harness := (true, "f64fee5c77e439f90177b36b77b7c5642aeaf2178e7441a2fb34953b4ee806bc"), looks := false }, kinds := [], alts := [], laidByText := true, laidKinds := [.data, .pinned], laidTests := true, laidLooks := .later }
def FnMatchAgreesWithTableCardSaid : Prop := Claim7.holds Tryd.pinned (.plain (OpenSpec.ofChange fnMatchAgreesWithTableSpec)) fnMatchAgreesWithTableCard

/-- THE TIED CARD OF 'zzlaws_root_b1.FnMatchExtraStarKeepsMatches'. -/
def fnMatchExtraStarKeepsMatchesCard : Claim7 := { stood := { row := fnMatchExtraStarKeepsMatchesRow, standIns := [], harness := (true, "f64fee5c77e439f90177b36b77b7c5642aeaf2178e7441a2fb34953b4ee806bc"), looks := false }, kinds := [], alts := [], laidByText := true, laidKinds := [.data, .pinned], laidTests := true, laidLooks := .later }
def FnMatchExtraStarKeepsMatchesCardSaid : Prop := Claim7.holds Tryd.pinned (.plain (OpenSpec.ofChange fnMatchExtraStarKeepsMatchesSpec)) fnMatchExtraStarKeepsMatchesCard

/-- THE TIED CARD OF 'zzlaws_root_b1.FnMatchConcatenates'. -/
def fnMatchConcatenatesCard : Claim7 := { stood := { row := fnMatchConcatenatesRow, standIns := [], harness := (true, "f64fee5c77e439f90177b36b77b7c5642aeaf2178e7441a2fb34953b4ee806bc"), looks := false }, kinds := [], alts := [], laidByText := true, laidKinds := [.data, .pinned], laidTests := true, laidLooks := .later }
def FnMatchConcatenatesCardSaid : Prop := Claim7.holds Tryd.pinned (.plain (OpenSpec.ofChange fnMatchConcatenatesSpec)) fnMatchConcatenatesCard

/-- THE TIED CARD OF 'zzlaws_root_b1.FnAllowedByAgreesWithPlainScan'. -/
def fnAllowedByAgreesWithPlainScanCard : Claim7 := { stood := { row := fnAllowedByAgreesWithPlainScanRow, standIns := [], harness := (true, "f64fee5c77e439f90177b36b77b7c5642aeaf2178e7441a2fb34953b4ee806bc"), looks := false }, kinds := [], alts := [], laidByText := true, laidKinds := [.data, .pinned], laidTests := true, laidLooks := .later }
def FnAllowedByAgreesWithPlainScanCardSaid : Prop := Claim7.holds Tryd.pinned (.plain (OpenSpec.ofChange fnAllowedByAgreesWithPlainScanSpec)) fnAllowedByAgreesWithPlainScanCard

/-- THE TIED CARD OF 'zzlaws_root_b1.FnAllowedBySplitIntoPoliciesChangesNothing'. -/
def fnAllowedBySplitIntoPoliciesChangesNothingCard : Claim7 := { stood := { row := fnAllowedBySplitIntoPoliciesChangesNothingRow, standIns := [], harness := (true, "f64fee5c77e439f90177b36b77b7c5642aeaf2178e7441a2fb34953b4ee806bc"), looks := false }, kinds := [], alts := [], laidByText := true, laidKinds := [.data, .pinned], laidTests := true, laidLooks := .later }
def FnAllowedBySplitIntoPoliciesChangesNothingCardSaid : Prop := Claim7.holds Tryd.pinned (.plain (OpenSpec.ofChange fnAllowedBySplitIntoPoliciesChangesNothingSpec)) fnAllowedBySplitIntoPoliciesChangesNothingCard

/-- THE TIED CARD OF 'zzlaws_root_b1.FnAllowedByDenyRemovesExactlyWhatItCovers'. -/
def fnAllowedByDenyRemovesExactlyWhatItCoversCard : Claim7 := { stood := { row := fnAllowedByDenyRemovesExactlyWhatItCoversRow, standIns := [], harness := (true, "f64fee5c77e439f90177b36b77b7c5642aeaf2178e7441a2fb34953b4ee806bc"), looks := false }, kinds := [], alts := [], laidByText := true, laidKinds := [.data, .pinned], laidTests := true, laidLooks := .later }
def FnAllowedByDenyRemovesExactlyWhatItCoversCardSaid : Prop := Claim7.holds Tryd.pinned (.plain (OpenSpec.ofChange fnAllowedByDenyRemovesExactlyWhatItCoversSpec)) fnAllowedByDenyRemovesExactlyWhatItCoversCard
end Rows
end Go.Proofs.Qxb6000393aDoor
