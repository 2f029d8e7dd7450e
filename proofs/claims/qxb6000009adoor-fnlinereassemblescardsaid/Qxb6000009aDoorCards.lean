/-
  DERIVED. GIVEN WITH THE SEED: THE CARDS: each row of Qxb6000009aDoorRows.lean that lists a variable, with what it lists TIED to the program's text (the seventh form; the later family's looks); each row that meets fmt, with fmt's text TOLD by the authors' own Lean function (tested against real Go, not proved from fmt's source: count such statements apart). THE CARD IS WHAT COUNTS. Prove the row's statement (the work); the ties are given (Qxb6000009aDoorTie.lean); close each card by the builder's one call (the guide's Derived/Test/ToyasCard.lean, 'card_holds'). Laid BY PROGRAM, IN A SANDBOX (cutbox-door.mjs). By AI agents, Wed Nov 11 2026. No macro, syntax, notation, axiom, sorry.
-/
import Derived.Test.Qxb6000009aDoorRows
import GoSem.ClaimSeven
namespace Go.Proofs.Qxb6000009aDoor
namespace Rows

/-- THE TIED CARD OF 'zzlaws_root_b1.FnLineSpec'. -/
def fnLineSpecCard : Claim7 := { stood := { row := fnLineSpecRow, standIns := [], harness := (true, "7b7b8a672465df4228a618056cb67b1b57b981e00bfefcfcce243503b9219e47"), looks := false }, kinds := [], alts := [], laidByText := true, laidKinds := [.data, .pinned], laidTests := true, laidLooks := .later }
def FnLineSpecCardSaid : Prop := Claim7.holds Tryd.pinned (.plain (OpenSpec.ofChange fnLineSpecSpec)) fnLineSpecCard

/-- THE TIED CARD OF 'zzlaws_root_b1.FnLineReassembles'. -/
def fnLineReassemblesCard : Claim7 := { stood := { row := fnLineReassemblesRow, standIns := [], harness := (true, "7b7b8a672465df4228a618056cb67b1b57b981e00bfefcfcce243503b9219e47"), looks := false }, kinds := [], alts := [], laidByText := true, laidKinds := [.data, .pinned], laidTests := true, laidLooks := .later }
def FnLineReassemblesCardSaid : Prop := Claim7.holds Tryd.pinned (.plain (OpenSpec.ofChange fnLineReassemblesSpec)) fnLineReassemblesCard

/-- THE TIED CARD OF 'zzlaws_root_b1.FnLineChunkedAgreesWithWhole'. -/
def fnLineChunkedAgreesWithWholeCard : Claim7 := { stood := { row := fnLineChunkedAgreesWithWholeRow, standIns := [], harness := (true, "7b7b8a672465df4228a618056cb67b1b57b981e00bfefcfcce243503b9219e47"), looks := false }, kinds := [], alts := [], laidByText := true, laidKinds := [.data, .pinned], laidTests := true, laidLooks := .later }
def FnLineChunkedAgreesWithWholeCardSaid : Prop := Claim7.holds Tryd.pinned (.plain (OpenSpec.ofChange fnLineChunkedAgreesWithWholeSpec)) fnLineChunkedAgreesWithWholeCard
end Rows
end Go.Proofs.Qxb6000009aDoor
