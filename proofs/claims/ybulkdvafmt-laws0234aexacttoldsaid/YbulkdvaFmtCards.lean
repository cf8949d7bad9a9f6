/-
  DERIVED. GIVEN WITH THE SEED: THE CARDS: each row of YbulkdvaFmtRows.lean that lists a variable, with what it lists TIED to the program's text (the seventh form; the later family's looks); each row that meets fmt, with fmt's text TOLD by the authors' own Lean function (tested against real Go, not proved from fmt's source: count such statements apart). THE CARD IS WHAT COUNTS. Prove the row's statement (the work); the ties are given (YbulkdvaFmtTie.lean); close each card by the builder's one call (the guide's Derived/Test/ToyasCard.lean, 'card_holds'). Laid BY PROGRAM, IN A SANDBOX (cutbox-door.mjs). By AI agents, Wed Nov 11 2026. No macro, syntax, notation, axiom, sorry.
-/
import Derived.Test.YbulkdvaFmtRows
import GoSem.ClaimSeven
namespace Go.Proofs.YbulkdvaFmt
namespace Rows

/-- THE TOLD CARD OF 'antecedent.LawS0234AExact'. -/
def lawS0234AExactCard : Claim7 := { stood := { row := lawS0234AExactRow, standIns := [], harness := (true, "4eab0ceef5dc5c20e031dc3d191f70b6821769235f51f0cecbf530f651f9fb22"), looks := true }, told := true, goes := false }
def LawS0234AExactToldSaid : Prop := Claim7.holds Ybaf.pinned (.plain (OpenSpec.ofChange lawS0234AExactSpec)) lawS0234AExactCard
/-- ITS FALSE NEIGHBOUR. Refute it at one input. -/
def LawS0234AExactToldWrongFalsely : Prop := Claim7.holds Ybaf.pinned (.plain (OpenSpec.ofChange lawS0234AExactWrong)) lawS0234AExactCard

/-- THE TOLD CARD OF 'antecedent.LawS0234ASplit'. -/
def lawS0234ASplitCard : Claim7 := { stood := { row := lawS0234ASplitRow, standIns := [], harness := (true, "4eab0ceef5dc5c20e031dc3d191f70b6821769235f51f0cecbf530f651f9fb22"), looks := true }, told := true, goes := false }
def LawS0234ASplitToldSaid : Prop := Claim7.holds Ybaf.pinned (.plain (OpenSpec.ofChange lawS0234ASplitSpec)) lawS0234ASplitCard
/-- ITS FALSE NEIGHBOUR. Refute it at one input. -/
def LawS0234ASplitToldWrongFalsely : Prop := Claim7.holds Ybaf.pinned (.plain (OpenSpec.ofChange lawS0234ASplitWrong)) lawS0234ASplitCard
end Rows
end Go.Proofs.YbulkdvaFmt
