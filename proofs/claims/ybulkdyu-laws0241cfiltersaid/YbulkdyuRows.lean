/-
  No cell of these rows narrows 'for every input' (looked for: loops, veiled, ifaces, maps, wideKeys, modest, calm, conditions, laid).
  DERIVED. THE GIVEN ROWS OF THIS SEAT. 2 by the template 'for every input the law returns true; each argument reads behind the call as it read before'; 0 by the template 'total and deterministic' (their statements: YbulkdyuTotals.lean).
  GIVEN WITH THE SEED: the statements are not yours to turn. If you find one false, say at which input.
  Laid BY PROGRAM, IN A SANDBOX (cutbox-rows.mjs): the forced cells as the released guide's own fill.sh prints them over the translation 9481aec0c94de235… (all of the seat's roots in one cut). By AI agents, Wed Nov 11 2026. No macro, syntax, notation, axiom, sorry.
-/
import Derived.Test.YbulkdyuChecked
import GoSem.Claim
import GoSem.ClaimJoined
import GoSem.ClaimMapViews
import Derived.JoinedTies
import Derived.KernelRfl
namespace Go.Proofs.Ybulkdyu
/- THE CELL 'sum', in the pinned program and in every row, IS THE sha256 OF THE DUMP (.gsa) THAT YbulkdyuProg.lean LOADS. Nothing in Lean hashes anything: it is a label: what it is worth is what the hold of that sum in a sandbox is worth. -/
noncomputable def Yba.pinned : Pinned := { name := "ybulkdyu", sum := "9481aec0c94de2352e7af65d4b88da87a59b4a2778f1e187dac7d902b2aa68d1", checked := Yba.checked }
namespace Rows
def none {H : Type} : Left H := { results := [], args := [] }

/-- 'rsync.LawS0241CFilter': WHATEVER THE INPUT: true; the input reads as it did. -/
def lawS0241CFilterSpec : ChangeSpec := { name := "lawS0241CFilter", fn := fun _ => fun
  | [d] => { results := [.lit (.bool true)], args := [d] }
  | _ => none }
def lawS0241CFilterRow : OpenClaim := { program := "ybulkdyu", sum := "9481aec0c94de2352e7af65d4b88da87a59b4a2778f1e187dac7d902b2aa68d1", func := "example.com/rootwalk/rootwalk/internal/rsync.LawS0241CFilter", spec := "lawS0241CFilter", unfollowed := true, recurses := true, apart := false }
def LawS0241CFilterSaid : Prop := lawS0241CFilterRow.holds Yba.pinned (OpenSpec.ofChange lawS0241CFilterSpec)

/-- ITS FALSE NEIGHBOUR: 'it returns false'. Refute it at one input. -/
def lawS0241CFilterWrong : ChangeSpec := { name := "lawS0241CFilter", fn := fun _ => fun
  | [d] => { results := [.lit (.bool false)], args := [d] }
  | _ => none }
def LawS0241CFilterWrongFalsely : Prop := lawS0241CFilterRow.holds Yba.pinned (OpenSpec.ofChange lawS0241CFilterWrong)

/-- 'rsync.LawS0241CIdemKeepsInput': WHATEVER THE INPUT: true; the input reads as it did. -/
def lawS0241CIdemKeepsInputSpec : ChangeSpec := { name := "lawS0241CIdemKeepsInput", fn := fun _ => fun
  | [d] => { results := [.lit (.bool true)], args := [d] }
  | _ => none }
def lawS0241CIdemKeepsInputRow : OpenClaim := { program := "ybulkdyu", sum := "9481aec0c94de2352e7af65d4b88da87a59b4a2778f1e187dac7d902b2aa68d1", func := "example.com/rootwalk/rootwalk/internal/rsync.LawS0241CIdemKeepsInput", spec := "lawS0241CIdemKeepsInput", unfollowed := true, recurses := true, apart := false }
def LawS0241CIdemKeepsInputSaid : Prop := lawS0241CIdemKeepsInputRow.holds Yba.pinned (OpenSpec.ofChange lawS0241CIdemKeepsInputSpec)

/-- ITS FALSE NEIGHBOUR: 'it returns false'. Refute it at one input. -/
def lawS0241CIdemKeepsInputWrong : ChangeSpec := { name := "lawS0241CIdemKeepsInput", fn := fun _ => fun
  | [d] => { results := [.lit (.bool false)], args := [d] }
  | _ => none }
def LawS0241CIdemKeepsInputWrongFalsely : Prop := lawS0241CIdemKeepsInputRow.holds Yba.pinned (OpenSpec.ofChange lawS0241CIdemKeepsInputWrong)

end Rows
end Go.Proofs.Ybulkdyu
