/-
  No cell of these rows narrows 'for every input' (looked for: loops, veiled, ifaces, maps, wideKeys, modest, calm, conditions, laid).
  DERIVED. THE GIVEN ROWS OF THIS SEAT. 4 by the template 'for every input the law returns true; each argument reads behind the call as it read before'; 0 by the template 'total and deterministic' (their statements: YbulkciaeTotals.lean).
  GIVEN WITH THE SEED: the statements are not yours to turn. If you find one false, say at which input.
  Laid BY PROGRAM, IN A SANDBOX (cutbox-rows.mjs): the forced cells as the released guide's own fill.sh prints them over the translation 0e669f4768311674… (all of the seat's roots in one cut). By AI agents, Wed Nov 11 2026. No macro, syntax, notation, axiom, sorry.
-/
import Derived.Test.YbulkciaeChecked
import GoSem.Claim
import GoSem.ClaimJoined
import GoSem.ClaimMapViews
import Derived.JoinedTies
import Derived.KernelRfl
namespace Go.Proofs.Ybulkciae
/- THE CELL 'sum', in the pinned program and in every row, IS THE sha256 OF THE DUMP (.gsa) THAT YbulkciaeProg.lean LOADS. Nothing in Lean hashes anything: it is a label: what it is worth is what the hold of that sum in a sandbox is worth. -/
noncomputable def Yba.pinned : Pinned := { name := "ybulkciae", sum := "0e669f4768311674d686799f81a758de8eb54a1072a75536934bebeb5823619d", checked := Yba.checked }
namespace Rows
def none {H : Type} : Left H := { results := [], args := [] }

/-- 'holdfast.LawS4203AForgetOne': WHATEVER THE INPUT: true; the input reads as it did. -/
def lawS4203AForgetOneSpec : ChangeSpec := { name := "lawS4203AForgetOne", fn := fun _ => fun
  | [d1, d2, d3] => { results := [.lit (.bool true)], args := [d1, d2, d3] }
  | _ => none }
def lawS4203AForgetOneRow : OpenClaim := { program := "ybulkciae", sum := "0e669f4768311674d686799f81a758de8eb54a1072a75536934bebeb5823619d", func := "example.com/holdfast/holdfast.LawS4203AForgetOne", spec := "lawS4203AForgetOne", unfollowed := true, recurses := true, apart := false }
def LawS4203AForgetOneSaid : Prop := lawS4203AForgetOneRow.holds Yba.pinned (OpenSpec.ofChange lawS4203AForgetOneSpec)

/-- ITS FALSE NEIGHBOUR: 'it returns false'. Refute it at one input. -/
def lawS4203AForgetOneWrong : ChangeSpec := { name := "lawS4203AForgetOne", fn := fun _ => fun
  | [d1, d2, d3] => { results := [.lit (.bool false)], args := [d1, d2, d3] }
  | _ => none }
def LawS4203AForgetOneWrongFalsely : Prop := lawS4203AForgetOneRow.holds Yba.pinned (OpenSpec.ofChange lawS4203AForgetOneWrong)

/-- 'holdfast.LawS4203AForgetAll': WHATEVER THE INPUT: true; the input reads as it did. -/
def lawS4203AForgetAllSpec : ChangeSpec := { name := "lawS4203AForgetAll", fn := fun _ => fun
  | [d1, d2, d3, d4] => { results := [.lit (.bool true)], args := [d1, d2, d3, d4] }
  | _ => none }
def lawS4203AForgetAllRow : OpenClaim := { program := "ybulkciae", sum := "0e669f4768311674d686799f81a758de8eb54a1072a75536934bebeb5823619d", func := "example.com/holdfast/holdfast.LawS4203AForgetAll", spec := "lawS4203AForgetAll", unfollowed := true, recurses := true, apart := false }
def LawS4203AForgetAllSaid : Prop := lawS4203AForgetAllRow.holds Yba.pinned (OpenSpec.ofChange lawS4203AForgetAllSpec)

/-- ITS FALSE NEIGHBOUR: 'it returns false'. Refute it at one input. -/
def lawS4203AForgetAllWrong : ChangeSpec := { name := "lawS4203AForgetAll", fn := fun _ => fun
  | [d1, d2, d3, d4] => { results := [.lit (.bool false)], args := [d1, d2, d3, d4] }
  | _ => none }
def LawS4203AForgetAllWrongFalsely : Prop := lawS4203AForgetAllRow.holds Yba.pinned (OpenSpec.ofChange lawS4203AForgetAllWrong)

/-- 'holdfast.LawS4203BNumbering': WHATEVER THE INPUT: true; the input reads as it did. -/
def lawS4203BNumberingSpec : ChangeSpec := { name := "lawS4203BNumbering", fn := fun _ => fun
  | [d1, d2] => { results := [.lit (.bool true)], args := [d1, d2] }
  | _ => none }
def lawS4203BNumberingRow : OpenClaim := { program := "ybulkciae", sum := "0e669f4768311674d686799f81a758de8eb54a1072a75536934bebeb5823619d", func := "example.com/holdfast/holdfast.LawS4203BNumbering", spec := "lawS4203BNumbering", apart := false }
def LawS4203BNumberingSaid : Prop := lawS4203BNumberingRow.holds Yba.pinned (OpenSpec.ofChange lawS4203BNumberingSpec)

/-- ITS FALSE NEIGHBOUR: 'it returns false'. Refute it at one input. -/
def lawS4203BNumberingWrong : ChangeSpec := { name := "lawS4203BNumbering", fn := fun _ => fun
  | [d1, d2] => { results := [.lit (.bool false)], args := [d1, d2] }
  | _ => none }
def LawS4203BNumberingWrongFalsely : Prop := lawS4203BNumberingRow.holds Yba.pinned (OpenSpec.ofChange lawS4203BNumberingWrong)

/-- 'holdfast.LawS4203BQueuedPlace': WHATEVER THE INPUT: true; the input reads as it did. -/
def lawS4203BQueuedPlaceSpec : ChangeSpec := { name := "lawS4203BQueuedPlace", fn := fun _ => fun
  | [d1, d2, d3] => { results := [.lit (.bool true)], args := [d1, d2, d3] }
  | _ => none }
def lawS4203BQueuedPlaceRow : OpenClaim := { program := "ybulkciae", sum := "0e669f4768311674d686799f81a758de8eb54a1072a75536934bebeb5823619d", func := "example.com/holdfast/holdfast.LawS4203BQueuedPlace", spec := "lawS4203BQueuedPlace", unfollowed := true, recurses := true, apart := false }
def LawS4203BQueuedPlaceSaid : Prop := lawS4203BQueuedPlaceRow.holds Yba.pinned (OpenSpec.ofChange lawS4203BQueuedPlaceSpec)

/-- ITS FALSE NEIGHBOUR: 'it returns false'. Refute it at one input. -/
def lawS4203BQueuedPlaceWrong : ChangeSpec := { name := "lawS4203BQueuedPlace", fn := fun _ => fun
  | [d1, d2, d3] => { results := [.lit (.bool false)], args := [d1, d2, d3] }
  | _ => none }
def LawS4203BQueuedPlaceWrongFalsely : Prop := lawS4203BQueuedPlaceRow.holds Yba.pinned (OpenSpec.ofChange lawS4203BQueuedPlaceWrong)

end Rows
end Go.Proofs.Ybulkciae
