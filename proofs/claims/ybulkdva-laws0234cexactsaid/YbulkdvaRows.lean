/-
  No cell of these rows narrows 'for every input' (looked for: loops, veiled, ifaces, maps, wideKeys, modest, calm, conditions, laid).
  DERIVED. THE GIVEN ROWS OF THIS SEAT. 1 by the template 'for every input the law returns true; each argument reads behind the call as it read before'; 0 by the template 'total and deterministic' (their statements: YbulkdvaTotals.lean).
  GIVEN WITH THE SEED: the statements are not yours to turn. If you find one false, say at which input.
  Laid BY PROGRAM, IN A SANDBOX (cutbox-rows.mjs): the forced cells as the released guide's own fill.sh prints them over the translation e6e9ad38a88929e3… (all of the seat's roots in one cut). By AI agents, Wed Nov 11 2026. No macro, syntax, notation, axiom, sorry.
-/
import Derived.Test.YbulkdvaChecked
import GoSem.Claim
import GoSem.ClaimJoined
import GoSem.ClaimMapViews
import Derived.JoinedTies
import Derived.KernelRfl
namespace Go.Proofs.Ybulkdva
/- THE CELL 'sum', in the pinned program and in every row, IS THE sha256 OF THE DUMP (.gsa) THAT YbulkdvaProg.lean LOADS. Nothing in Lean hashes anything: it is a label: what it is worth is what the hold of that sum in a sandbox is worth. -/
noncomputable def Yba.pinned : Pinned := { name := "ybulkdva", sum := "e6e9ad38a88929e31aea9ec367aff341e18ae44734b468746e8ea9a2a95ac177", checked := Yba.checked }
namespace Rows
def none {H : Type} : Left H := { results := [], args := [] }

/-- 'stampedrpc.LawS0234CExact': WHATEVER THE INPUT: true; the input reads as it did. -/
def lawS0234CExactSpec : ChangeSpec := { name := "lawS0234CExact", fn := fun _ => fun
  | [d1, d2, d3, d4] => { results := [.lit (.bool true)], args := [d1, d2, d3, d4] }
  | _ => none }
def lawS0234CExactRow : OpenClaim := { program := "ybulkdva", sum := "e6e9ad38a88929e31aea9ec367aff341e18ae44734b468746e8ea9a2a95ac177", func := "example.com/antecedent/antecedent/stampedrpc.LawS0234CExact", spec := "lawS0234CExact", apart := false }
def LawS0234CExactSaid : Prop := lawS0234CExactRow.holds Yba.pinned (OpenSpec.ofChange lawS0234CExactSpec)

/-- ITS FALSE NEIGHBOUR: 'it returns false'. Refute it at one input. -/
def lawS0234CExactWrong : ChangeSpec := { name := "lawS0234CExact", fn := fun _ => fun
  | [d1, d2, d3, d4] => { results := [.lit (.bool false)], args := [d1, d2, d3, d4] }
  | _ => none }
def LawS0234CExactWrongFalsely : Prop := lawS0234CExactRow.holds Yba.pinned (OpenSpec.ofChange lawS0234CExactWrong)

end Rows
end Go.Proofs.Ybulkdva
