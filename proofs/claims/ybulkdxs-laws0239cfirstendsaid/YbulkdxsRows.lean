/-
  No cell of these rows narrows 'for every input' (looked for: loops, veiled, ifaces, maps, wideKeys, modest, calm, conditions, laid).
  DERIVED. THE GIVEN ROWS OF THIS SEAT. 3 by the template 'for every input the law returns true; each argument reads behind the call as it read before'; 0 by the template 'total and deterministic' (their statements: YbulkdxsTotals.lean).
  GIVEN WITH THE SEED: the statements are not yours to turn. If you find one false, say at which input.
  Laid BY PROGRAM, IN A SANDBOX (cutbox-rows.mjs): the forced cells as the released guide's own fill.sh prints them over the translation af6cd3f1cd5da02b… (all of the seat's roots in one cut). By AI agents, Wed Nov 11 2026. No macro, syntax, notation, axiom, sorry.
-/
import Derived.Test.YbulkdxsChecked
import GoSem.Claim
import GoSem.ClaimJoined
import GoSem.ClaimMapViews
import Derived.JoinedTies
import Derived.KernelRfl
namespace Go.Proofs.Ybulkdxs
/- THE CELL 'sum', in the pinned program and in every row, IS THE sha256 OF THE DUMP (.gsa) THAT YbulkdxsProg.lean LOADS. Nothing in Lean hashes anything: it is a label: what it is worth is what the hold of that sum in a sandbox is worth. -/
noncomputable def Yba.pinned : Pinned := { name := "ybulkdxs", sum := "af6cd3f1cd5da02b3bc9071216181f0b1ed1012c3241ee2849046e19de3433de", checked := Yba.checked }
namespace Rows
def none {H : Type} : Left H := { results := [], args := [] }

/-- 'serialine.LawS0239APicks': WHATEVER THE INPUT: true; the input reads as it did. -/
def lawS0239APicksSpec : ChangeSpec := { name := "lawS0239APicks", fn := fun _ => fun
  | [d1, d2] => { results := [.lit (.bool true)], args := [d1, d2] }
  | _ => none }
def lawS0239APicksRow : OpenClaim := { program := "ybulkdxs", sum := "af6cd3f1cd5da02b3bc9071216181f0b1ed1012c3241ee2849046e19de3433de", func := "example.com/serialine/serialine.LawS0239APicks", spec := "lawS0239APicks", apart := false }
def LawS0239APicksSaid : Prop := lawS0239APicksRow.holds Yba.pinned (OpenSpec.ofChange lawS0239APicksSpec)

/-- ITS FALSE NEIGHBOUR: 'it returns false'. Refute it at one input. -/
def lawS0239APicksWrong : ChangeSpec := { name := "lawS0239APicks", fn := fun _ => fun
  | [d1, d2] => { results := [.lit (.bool false)], args := [d1, d2] }
  | _ => none }
def LawS0239APicksWrongFalsely : Prop := lawS0239APicksRow.holds Yba.pinned (OpenSpec.ofChange lawS0239APicksWrong)

/-- 'serialine.LawS0239AConcat': WHATEVER THE INPUT: true; the input reads as it did. -/
def lawS0239AConcatSpec : ChangeSpec := { name := "lawS0239AConcat", fn := fun _ => fun
  | [d1, d2, d3] => { results := [.lit (.bool true)], args := [d1, d2, d3] }
  | _ => none }
def lawS0239AConcatRow : OpenClaim := { program := "ybulkdxs", sum := "af6cd3f1cd5da02b3bc9071216181f0b1ed1012c3241ee2849046e19de3433de", func := "example.com/serialine/serialine.LawS0239AConcat", spec := "lawS0239AConcat", apart := false }
def LawS0239AConcatSaid : Prop := lawS0239AConcatRow.holds Yba.pinned (OpenSpec.ofChange lawS0239AConcatSpec)

/-- ITS FALSE NEIGHBOUR: 'it returns false'. Refute it at one input. -/
def lawS0239AConcatWrong : ChangeSpec := { name := "lawS0239AConcat", fn := fun _ => fun
  | [d1, d2, d3] => { results := [.lit (.bool false)], args := [d1, d2, d3] }
  | _ => none }
def LawS0239AConcatWrongFalsely : Prop := lawS0239AConcatRow.holds Yba.pinned (OpenSpec.ofChange lawS0239AConcatWrong)

/-- 'serialine.LawS0239CFirstEnd': WHATEVER THE INPUT: true; the input reads as it did. -/
def lawS0239CFirstEndSpec : ChangeSpec := { name := "lawS0239CFirstEnd", fn := fun _ => fun
  | [d1, d2, d3] => { results := [.lit (.bool true)], args := [d1, d2, d3] }
  | _ => none }
def lawS0239CFirstEndRow : OpenClaim := { program := "ybulkdxs", sum := "af6cd3f1cd5da02b3bc9071216181f0b1ed1012c3241ee2849046e19de3433de", func := "example.com/serialine/serialine.LawS0239CFirstEnd", spec := "lawS0239CFirstEnd", apart := false }
def LawS0239CFirstEndSaid : Prop := lawS0239CFirstEndRow.holds Yba.pinned (OpenSpec.ofChange lawS0239CFirstEndSpec)

/-- ITS FALSE NEIGHBOUR: 'it returns false'. Refute it at one input. -/
def lawS0239CFirstEndWrong : ChangeSpec := { name := "lawS0239CFirstEnd", fn := fun _ => fun
  | [d1, d2, d3] => { results := [.lit (.bool false)], args := [d1, d2, d3] }
  | _ => none }
def LawS0239CFirstEndWrongFalsely : Prop := lawS0239CFirstEndRow.holds Yba.pinned (OpenSpec.ofChange lawS0239CFirstEndWrong)

end Rows
end Go.Proofs.Ybulkdxs
