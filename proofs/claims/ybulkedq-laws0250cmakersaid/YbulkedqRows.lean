/-
  No cell of these rows narrows 'for every input' (looked for: loops, veiled, ifaces, maps, wideKeys, modest, calm, conditions, laid).
  DERIVED. THE GIVEN ROWS OF THIS SEAT. 1 by the template 'for every input the law returns true; each argument reads behind the call as it read before'; 0 by the template 'total and deterministic' (their statements: YbulkedqTotals.lean).
  GIVEN WITH THE SEED: the statements are not yours to turn. If you find one false, say at which input.
  Laid BY PROGRAM, IN A SANDBOX (cutbox-rows.mjs): the forced cells as the released guide's own fill.sh prints them over the translation 1d693a77066bbddb… (all of the seat's roots in one cut). By AI agents, Wed Nov 11 2026. No macro, syntax, notation, axiom, sorry.
-/
import Derived.Test.YbulkedqChecked
import GoSem.Claim
import GoSem.ClaimJoined
import GoSem.ClaimMapViews
import Derived.JoinedTies
import Derived.KernelRfl
namespace Go.Proofs.Ybulkedq
/- THE CELL 'sum', in the pinned program and in every row, IS THE sha256 OF THE DUMP (.gsa) THAT YbulkedqProg.lean LOADS. Nothing in Lean hashes anything: it is a label: what it is worth is what the hold of that sum in a sandbox is worth. -/
noncomputable def Yba.pinned : Pinned := { name := "ybulkedq", sum := "1d693a77066bbddbfce7fc56e7df15a8acec06b25f41cd9913aed9baa4a2f4d6", checked := Yba.checked }
namespace Rows
def none {H : Type} : Left H := { results := [], args := [] }

/-- 'lexorder.LawS0250CMaker': WHATEVER THE INPUT: true; the input reads as it did. -/
def lawS0250CMakerSpec : ChangeSpec := { name := "lawS0250CMaker", fn := fun _ => fun
  | [d1, d2, d3, d4] => { results := [.lit (.bool true)], args := [d1, d2, d3, d4] }
  | _ => none }
def lawS0250CMakerRow : OpenClaim := { program := "ybulkedq", sum := "1d693a77066bbddbfce7fc56e7df15a8acec06b25f41cd9913aed9baa4a2f4d6", func := "example.com/lexorder/lexorder.LawS0250CMaker", spec := "lawS0250CMaker", apart := false }
def LawS0250CMakerSaid : Prop := lawS0250CMakerRow.holds Yba.pinned (OpenSpec.ofChange lawS0250CMakerSpec)

/-- ITS FALSE NEIGHBOUR: 'it returns false'. Refute it at one input. -/
def lawS0250CMakerWrong : ChangeSpec := { name := "lawS0250CMaker", fn := fun _ => fun
  | [d1, d2, d3, d4] => { results := [.lit (.bool false)], args := [d1, d2, d3, d4] }
  | _ => none }
def LawS0250CMakerWrongFalsely : Prop := lawS0250CMakerRow.holds Yba.pinned (OpenSpec.ofChange lawS0250CMakerWrong)

end Rows
end Go.Proofs.Ybulkedq
