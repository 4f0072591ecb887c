/-
  DERIVED. GIVEN WITH THE SEED: THE CARDS: each row of Qxb6600202aDoorRows.lean that lists a variable, with what it lists TIED to the program's text (the seventh form; the later family's looks); each row that meets fmt, with fmt's text TOLD by the authors' own Lean function (tested against real Go, not proved from fmt's source: count such statements apart). THE CARD IS WHAT COUNTS. Prove the row's statement (the work); the ties are given (Qxb6600202aDoorTie.lean); close each card by the builder's one call (the guide's Derived/Test/ToyasCard.lean, 'card_holds'). Laid BY PROGRAM, IN A SANDBOX (cutbox-door.mjs). By AI agents, Wed Nov 11 2026. No macro, syntax, notation, axiom, sorry.
-/
import Derived.Test.Qxb6600202aDoorRows
import GoSem.ClaimSeven
namespace Go.Proofs.Qxb6600202aDoor
namespace Rows

/-- THE TIED CARD OF 'zzlaws_graphics_b1.FnAppendToRoundTrip'. -/
def fnAppendToRoundTripCard : Claim7 := { stood := { row := fnAppendToRoundTripRow, standIns := [], harness := (true, "f65de27d6abfbc2b89fc0bd7d3e64eb101ab7a4ee27d6766eb789fcbf24b333f"), looks := false }, kinds := [], alts := [], laidByText := true, laidKinds := [.data, .data, .data], laidTests := true, laidLooks := .later }
def FnAppendToRoundTripCardSaid : Prop := Claim7.holds Tryd.pinned (.plain (OpenSpec.ofChange fnAppendToRoundTripSpec)) fnAppendToRoundTripCard

/-- THE TIED CARD OF 'zzlaws_graphics_b1.FnAppendToKeepsDstAndIsOneLine'. -/
def fnAppendToKeepsDstAndIsOneLineCard : Claim7 := { stood := { row := fnAppendToKeepsDstAndIsOneLineRow, standIns := [], harness := (true, "f65de27d6abfbc2b89fc0bd7d3e64eb101ab7a4ee27d6766eb789fcbf24b333f"), looks := false }, kinds := [], alts := [], laidByText := true, laidKinds := [.data, .data, .data], laidTests := true, laidLooks := .later }
def FnAppendToKeepsDstAndIsOneLineCardSaid : Prop := Claim7.holds Tryd.pinned (.plain (OpenSpec.ofChange fnAppendToKeepsDstAndIsOneLineSpec)) fnAppendToKeepsDstAndIsOneLineCard
end Rows
end Go.Proofs.Qxb6600202aDoor
