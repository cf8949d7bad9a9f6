/-
  NARROWER THAN 'FOR EVERY INPUT', by the rows' own cells (each row's printed sentence says how): LawS0234CRoundTrip: ifaces, laid.
  DERIVED. THE GIVEN ROWS OF THIS SEAT. 1 by the template 'for every input the law returns true; each argument reads behind the call as it read before'; 0 by the template 'total and deterministic' (their statements: YbulkdvaDoorTotals.lean).
  GIVEN WITH THE SEED: the statements are not yours to turn. If you find one false, say at which input.
  Laid BY PROGRAM, IN A SANDBOX (cutbox-rows.mjs): the forced cells as the released guide's own fill.sh prints them over the translation 72350588291b5b5f… (all of the seat's roots in one cut). By AI agents, Wed Nov 11 2026. No macro, syntax, notation, axiom, sorry.
-/
import Derived.Test.YbulkdvaDoorChecked
import GoSem.Claim
import GoSem.ClaimJoined
import GoSem.ClaimMapViews
import Derived.JoinedTies
import Derived.KernelRfl
namespace Go.Proofs.YbulkdvaDoor
/- THE CELL 'sum', in the pinned program and in every row, IS THE sha256 OF THE DUMP (.gsa) THAT YbulkdvaDoorProg.lean LOADS. Nothing in Lean hashes anything: it is a label: what it is worth is what the hold of that sum in a sandbox is worth. -/
noncomputable def Ybad.pinned : Pinned := { name := "ybulkdvadoor", sum := "72350588291b5b5f4870acc0e8382b422fbd91f74b4f6ddc1a300c6fa6ed761a", checked := Ybad.checked }
namespace Rows
def none {H : Type} : Left H := { results := [], args := [] }

/- WHAT THE LISTED PACKAGE-LEVEL VARIABLES READ AS WHEN THE CALL BEGINS. Each datum BY PROGRAM (the guide's laid-datum.mjs) off the statement by which the dump's own 'gosem.cut.vars' lays the variable. In a bare row this is a premise. The card (YbulkdvaDoorCards.lean) ties it to the program's text. -/
def laid_example_com_antecedent_antecedent_stampedrpc_errHeader {H : Type} : DataW H := .iface "*errors.errorString" (.ptr (.agg [.lit (.string [97, 32, 109, 101, 115, 115, 97, 103, 101, 39, 115, 32, 104, 101, 97, 100, 101, 114, 32, 105, 115, 32, 110, 111, 116, 32, 111, 110, 101, 32, 116, 104, 97, 116, 32, 115, 116, 97, 109, 112, 101, 100, 32, 110, 101, 116, 47, 114, 112, 99, 32, 119, 114, 105, 116, 101, 115])]))

/-- 'stampedrpc.LawS0234CRoundTrip': WHATEVER THE INPUT: true; the input reads as it did. -/
def lawS0234CRoundTripSpec : ChangeSpec := { name := "lawS0234CRoundTrip", vars := ["example.com/antecedent/antecedent/stampedrpc.errHeader"], fn := fun _ => fun
  | [d1, d2, d3, d4, g1] => { results := [.lit (.bool true)], args := [d1, d2, d3, d4], vars := [g1] }
  | _ => none }
def lawS0234CRoundTripRow : OpenClaim := { program := "ybulkdvadoor", sum := "72350588291b5b5f4870acc0e8382b422fbd91f74b4f6ddc1a300c6fa6ed761a", func := "example.com/antecedent/antecedent/stampedrpc.LawS0234CRoundTrip", spec := "lawS0234CRoundTrip", named := ["example.com/antecedent/antecedent/stampedrpc.errHeader"], ifaces := true, apart := false, laid := [("example.com/antecedent/antecedent/stampedrpc.errHeader", laid_example_com_antecedent_antecedent_stampedrpc_errHeader)] }
def LawS0234CRoundTripSaid : Prop := lawS0234CRoundTripRow.holds Ybad.pinned (OpenSpec.ofChange lawS0234CRoundTripSpec)

/-- ITS FALSE NEIGHBOUR: 'it returns false'. Refute it at one input. -/
def lawS0234CRoundTripWrong : ChangeSpec := { name := "lawS0234CRoundTrip", vars := ["example.com/antecedent/antecedent/stampedrpc.errHeader"], fn := fun _ => fun
  | [d1, d2, d3, d4, g1] => { results := [.lit (.bool false)], args := [d1, d2, d3, d4], vars := [g1] }
  | _ => none }
def LawS0234CRoundTripWrongFalsely : Prop := lawS0234CRoundTripRow.holds Ybad.pinned (OpenSpec.ofChange lawS0234CRoundTripWrong)

end Rows
end Go.Proofs.YbulkdvaDoor
