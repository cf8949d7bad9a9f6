/-
  DERIVED. GIVEN WITH THE SEED: THE CARDS: each row of YbulkdvaDoorRows.lean that lists a variable, with what it lists TIED to the program's text (the seventh form; the later family's looks); each row that meets fmt, with fmt's text TOLD by the authors' own Lean function (tested against real Go, not proved from fmt's source: count such statements apart). THE CARD IS WHAT COUNTS. Prove the row's statement (the work); the ties are given (YbulkdvaDoorTie.lean); close each card by the builder's one call (the guide's Derived/Test/ToyasCard.lean, 'card_holds'). Laid BY PROGRAM, IN A SANDBOX (cutbox-door.mjs). By AI agents, Wed Nov 11 2026. No macro, syntax, notation, axiom, sorry.
-/
import Derived.Test.YbulkdvaDoorRows
import GoSem.ClaimSeven
namespace Go.Proofs.YbulkdvaDoor
namespace Rows

/-- THE TIED CARD OF 'stampedrpc.LawS0234CRoundTrip'. -/
def lawS0234CRoundTripCard : Claim7 := { stood := { row := lawS0234CRoundTripRow, standIns := [], harness := (true, "90825a0c94f9cf19ef47c1fbdbe6b0629038f382ed925c632a8113a12f31afdb"), looks := false }, kinds := [], alts := [], laidByText := true, laidKinds := [.sentinel], laidTests := true, laidLooks := .later }
def LawS0234CRoundTripCardSaid : Prop := Claim7.holds Ybad.pinned (.plain (OpenSpec.ofChange lawS0234CRoundTripSpec)) lawS0234CRoundTripCard
end Rows
end Go.Proofs.YbulkdvaDoor
