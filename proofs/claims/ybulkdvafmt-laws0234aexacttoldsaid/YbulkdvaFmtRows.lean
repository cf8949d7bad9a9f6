/-
  No cell of these rows narrows 'for every input' (looked for: loops, veiled, ifaces, maps, wideKeys, modest, calm, conditions, laid).
  DERIVED. THE GIVEN ROWS OF THIS SEAT. 2 by the template 'for every input the law returns true; each argument reads behind the call as it read before'; 0 by the template 'total and deterministic' (their statements: YbulkdvaFmtTotals.lean).
  GIVEN WITH THE SEED: the statements are not yours to turn. If you find one false, say at which input.
  Laid BY PROGRAM, IN A SANDBOX (cutbox-rows.mjs): the forced cells as the released guide's own fill.sh prints them over the translation 1e49542eddf3f853… (all of the seat's roots in one cut). By AI agents, Wed Nov 11 2026. No macro, syntax, notation, axiom, sorry.
-/
import Derived.Test.YbulkdvaFmtChecked
import GoSem.Claim
import GoSem.ClaimJoined
import GoSem.ClaimMapViews
import Derived.JoinedTies
import Derived.KernelRfl
namespace Go.Proofs.YbulkdvaFmt
/- THE CELL 'sum', in the pinned program and in every row, IS THE sha256 OF THE DUMP (.gsa) THAT YbulkdvaFmtProg.lean LOADS. Nothing in Lean hashes anything: it is a label: what it is worth is what the hold of that sum in a sandbox is worth. -/
noncomputable def Ybaf.pinned : Pinned := { name := "ybulkdvafmt", sum := "1e49542eddf3f853960780332c8bd89382ff4b242d518233386b96b75ecf004a", checked := Ybaf.checked }
namespace Rows
def none {H : Type} : Left H := { results := [], args := [] }

/-- 'antecedent.LawS0234AExact': WHATEVER THE INPUT: true; the input reads as it did. -/
def lawS0234AExactSpec : ChangeSpec := { name := "lawS0234AExact", fn := fun _ => fun
  | [d1, d2, d3, d4] => { results := [.lit (.bool true)], args := [d1, d2, d3, d4] }
  | _ => none }
def lawS0234AExactRow : OpenClaim := { program := "ybulkdvafmt", sum := "1e49542eddf3f853960780332c8bd89382ff4b242d518233386b96b75ecf004a", func := "example.com/antecedent/antecedent.LawS0234AExact", spec := "lawS0234AExact", stops := ["fmt.Sprintf, its operands' methods called"], inPlace := ["fmt.Sprintf"], unfollowed := true, recurses := true, apart := false }
/-- NO THEOREM (fmt's text is open here; it may be false): for the released tool's asking of the row's closed facts alone. THE STATEMENT IS 'LawS0234AExactToldSaid' (YbulkdvaFmtCards.lean). -/
def LawS0234AExactFormAsk : Prop := lawS0234AExactRow.holds Ybaf.pinned (OpenSpec.ofChange lawS0234AExactSpec)

/-- ITS FALSE NEIGHBOUR: 'it returns false'. Refute it at one input. -/
def lawS0234AExactWrong : ChangeSpec := { name := "lawS0234AExact", fn := fun _ => fun
  | [d1, d2, d3, d4] => { results := [.lit (.bool false)], args := [d1, d2, d3, d4] }
  | _ => none }
def LawS0234AExactWrongFormAsk : Prop := lawS0234AExactRow.holds Ybaf.pinned (OpenSpec.ofChange lawS0234AExactWrong)

/-- 'antecedent.LawS0234ASplit': WHATEVER THE INPUT: true; the input reads as it did. -/
def lawS0234ASplitSpec : ChangeSpec := { name := "lawS0234ASplit", fn := fun _ => fun
  | [d1, d2, d3, d4] => { results := [.lit (.bool true)], args := [d1, d2, d3, d4] }
  | _ => none }
def lawS0234ASplitRow : OpenClaim := { program := "ybulkdvafmt", sum := "1e49542eddf3f853960780332c8bd89382ff4b242d518233386b96b75ecf004a", func := "example.com/antecedent/antecedent.LawS0234ASplit", spec := "lawS0234ASplit", stops := ["fmt.Sprintf, its operands' methods called"], inPlace := ["fmt.Sprintf"], unfollowed := true, recurses := true, apart := false }
/-- NO THEOREM (fmt's text is open here; it may be false): for the released tool's asking of the row's closed facts alone. THE STATEMENT IS 'LawS0234ASplitToldSaid' (YbulkdvaFmtCards.lean). -/
def LawS0234ASplitFormAsk : Prop := lawS0234ASplitRow.holds Ybaf.pinned (OpenSpec.ofChange lawS0234ASplitSpec)

/-- ITS FALSE NEIGHBOUR: 'it returns false'. Refute it at one input. -/
def lawS0234ASplitWrong : ChangeSpec := { name := "lawS0234ASplit", fn := fun _ => fun
  | [d1, d2, d3, d4] => { results := [.lit (.bool false)], args := [d1, d2, d3, d4] }
  | _ => none }
def LawS0234ASplitWrongFormAsk : Prop := lawS0234ASplitRow.holds Ybaf.pinned (OpenSpec.ofChange lawS0234ASplitWrong)

end Rows
end Go.Proofs.YbulkdvaFmt
