/-
  No cell of these rows narrows 'for every input' (looked for: loops, veiled, ifaces, maps, wideKeys, modest, calm, conditions, laid).
  DERIVED. THE GIVEN ROWS OF THIS SEAT. 1 by the template 'for every input the law returns true; each argument reads behind the call as it read before'; 0 by the template 'total and deterministic' (their statements: YbulkchzcTotals.lean).
  GIVEN WITH THE SEED: the statements are not yours to turn. If you find one false, say at which input.
  Laid BY PROGRAM, IN A SANDBOX (cutbox-rows.mjs): the forced cells as the released guide's own fill.sh prints them over the translation 6589262af4930bcd… (all of the seat's roots in one cut). By AI agents, Wed Nov 11 2026. No macro, syntax, notation, axiom, sorry.
-/
import Derived.Test.YbulkchzcChecked
import GoSem.Claim
import GoSem.ClaimJoined
import GoSem.ClaimMapViews
import Derived.JoinedTies
import Derived.KernelRfl
namespace Go.Proofs.Ybulkchzc
/- THE CELL 'sum', in the pinned program and in every row, IS THE sha256 OF THE DUMP (.gsa) THAT YbulkchzcProg.lean LOADS. Nothing in Lean hashes anything: it is a label: what it is worth is what the hold of that sum in a sandbox is worth. -/
noncomputable def Yba.pinned : Pinned := { name := "ybulkchzc", sum := "6589262af4930bcd133c988b7d66c1dab78a96381d1d085620d381ed1334faa9", checked := Yba.checked }
namespace Rows
def none {H : Type} : Left H := { results := [], args := [] }

/-- 'option-switch.LawS4201CTable': WHATEVER THE INPUT: true; the input reads as it did. -/
def lawS4201CTableSpec : ChangeSpec := { name := "lawS4201CTable", fn := fun _ => fun
  | [d1, d2, d3] => { results := [.lit (.bool true)], args := [d1, d2, d3] }
  | _ => none }
def lawS4201CTableRow : OpenClaim := { program := "ybulkchzc", sum := "6589262af4930bcd133c988b7d66c1dab78a96381d1d085620d381ed1334faa9", func := "example.com/option-switch/option-switch.LawS4201CTable", spec := "lawS4201CTable", apart := false }
def LawS4201CTableSaid : Prop := lawS4201CTableRow.holds Yba.pinned (OpenSpec.ofChange lawS4201CTableSpec)

/-- ITS FALSE NEIGHBOUR: 'it returns false'. Refute it at one input. -/
def lawS4201CTableWrong : ChangeSpec := { name := "lawS4201CTable", fn := fun _ => fun
  | [d1, d2, d3] => { results := [.lit (.bool false)], args := [d1, d2, d3] }
  | _ => none }
def LawS4201CTableWrongFalsely : Prop := lawS4201CTableRow.holds Yba.pinned (OpenSpec.ofChange lawS4201CTableWrong)

end Rows
end Go.Proofs.Ybulkchzc
