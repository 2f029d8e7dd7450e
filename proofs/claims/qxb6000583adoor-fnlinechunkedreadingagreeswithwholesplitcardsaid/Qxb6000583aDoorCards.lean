/-
  DERIVED. GIVEN WITH THE SEED: THE CARDS: each row of Qxb6000583aDoorRows.lean that lists a variable, with what it lists TIED to the program's text (the seventh form; the later family's looks); each row that meets fmt, with fmt's text TOLD by the authors' own Lean function (tested against real Go, not proved from fmt's source: count such statements apart). THE CARD IS WHAT COUNTS. Prove the row's statement (the work); the ties are given (Qxb6000583aDoorTie.lean); close each card by the builder's one call (the guide's Derived/Test/ToyasCard.lean, 'card_holds'). Laid BY PROGRAM, IN A SANDBOX (cutbox-door.mjs). By AI agents, Wed Nov 11 2026. No macro, syntax, notation, axiom, sorry.
-/
import Derived.Test.Qxb6000583aDoorRows
import GoSem.ClaimSeven
namespace Go.Proofs.Qxb6000583aDoor
namespace Rows

/-- THE TIED CARD OF 'zzlaws_root_b1.FnLineChunkedReadingAgreesWithWholeSplit'. -/
def fnLineChunkedReadingAgreesWithWholeSplitCard : Claim7 := { stood := { row := fnLineChunkedReadingAgreesWithWholeSplitRow, standIns := [], harness := (true, "c851c2817e070493530bb7decb5ba8435a08bf76f7a987a86ae3a933ff732bb8"), looks := false }, kinds := [], alts := [], laidByText := true, laidKinds := [.data, .pinned], laidTests := true, laidLooks := .later }
def FnLineChunkedReadingAgreesWithWholeSplitCardSaid : Prop := Claim7.holds Tryd.pinned (.plain (OpenSpec.ofChange fnLineChunkedReadingAgreesWithWholeSplitSpec)) fnLineChunkedReadingAgreesWithWholeSplitCard

/-- THE TIED CARD OF 'zzlaws_root_b1.FnLineTakesExactlyOneLine'. -/
def fnLineTakesExactlyOneLineCard : Claim7 := { stood := { row := fnLineTakesExactlyOneLineRow, standIns := [], harness := (true, "c851c2817e070493530bb7decb5ba8435a08bf76f7a987a86ae3a933ff732bb8"), looks := false }, kinds := [], alts := [], laidByText := true, laidKinds := [.data, .pinned], laidTests := true, laidLooks := .later }
def FnLineTakesExactlyOneLineCardSaid : Prop := Claim7.holds Tryd.pinned (.plain (OpenSpec.ofChange fnLineTakesExactlyOneLineSpec)) fnLineTakesExactlyOneLineCard
end Rows
end Go.Proofs.Qxb6000583aDoor
