/-
  DERIVED. GIVEN WITH THE SEED: THE CARDS: each row of Qxb6000766aDoorRows.lean that lists a variable, with what it lists TIED to the program's text (the seventh form; the later family's looks); each row that meets fmt, with fmt's text TOLD by the authors' own Lean function (tested against real Go, not proved from fmt's source: count such statements apart). THE CARD IS WHAT COUNTS. Prove the row's statement (the work); the ties are given (Qxb6000766aDoorTie.lean); close each card by the builder's one call (the guide's Derived/Test/ToyasCard.lean, 'card_holds'). Laid BY PROGRAM, IN A SANDBOX (cutbox-door.mjs). By AI agents, Wed Nov 11 2026. No macro, syntax, notation, axiom, sorry.
-/
import Derived.Test.Qxb6000766aDoorRows
import GoSem.ClaimSeven
namespace Go.Proofs.Qxb6000766aDoor
namespace Rows

/-- THE TIED CARD OF 'zzlaws_internal_front_b1.FnEntityTagsRoundTrip'. -/
def fnEntityTagsRoundTripCard : Claim7 := { stood := { row := fnEntityTagsRoundTripRow, standIns := [], harness := (true, "35ef03f5765ce25ac3fee63f3a9ecb3c164759420c6b5a1ba0083d639cbc5b82"), looks := false }, kinds := [], alts := [], laidByText := true, laidKinds := [.data, .pinned], laidTests := true, laidLooks := .later }
def FnEntityTagsRoundTripCardSaid : Prop := Claim7.holds Tryd.pinned (.plain (OpenSpec.ofChange fnEntityTagsRoundTripSpec)) fnEntityTagsRoundTripCard

/-- THE TIED CARD OF 'zzlaws_internal_front_b1.FnEntityTagsConcat'. -/
def fnEntityTagsConcatCard : Claim7 := { stood := { row := fnEntityTagsConcatRow, standIns := [], harness := (true, "35ef03f5765ce25ac3fee63f3a9ecb3c164759420c6b5a1ba0083d639cbc5b82"), looks := false }, kinds := [], alts := [], laidByText := true, laidKinds := [.data, .pinned], laidTests := true, laidLooks := .later }
def FnEntityTagsConcatCardSaid : Prop := Claim7.holds Tryd.pinned (.plain (OpenSpec.ofChange fnEntityTagsConcatSpec)) fnEntityTagsConcatCard

/-- THE TIED CARD OF 'zzlaws_internal_front_b1.FnEntityTagsListWellFormed'. -/
def fnEntityTagsListWellFormedCard : Claim7 := { stood := { row := fnEntityTagsListWellFormedRow, standIns := [], harness := (true, "35ef03f5765ce25ac3fee63f3a9ecb3c164759420c6b5a1ba0083d639cbc5b82"), looks := false }, kinds := [], alts := [], laidByText := true, laidKinds := [.data, .pinned], laidTests := true, laidLooks := .later }
def FnEntityTagsListWellFormedCardSaid : Prop := Claim7.holds Tryd.pinned (.plain (OpenSpec.ofChange fnEntityTagsListWellFormedSpec)) fnEntityTagsListWellFormedCard
end Rows
end Go.Proofs.Qxb6000766aDoor
