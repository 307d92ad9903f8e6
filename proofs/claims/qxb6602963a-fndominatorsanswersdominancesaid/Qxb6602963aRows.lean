/-
  No cell of these rows narrows 'for every input' (looked for: loops, veiled, ifaces, maps, wideKeys, modest, calm, conditions, laid).
  DERIVED. THE GIVEN ROWS OF THIS SEAT. 5 by the template 'for every input the law returns true; each argument reads behind the call as it read before'; 0 by the template 'total and deterministic' (their statements: Qxb6602963aTotals.lean).
  GIVEN WITH THE SEED: the statements are not yours to turn. If you find one false, say at which input.
  Laid BY PROGRAM, IN A SANDBOX (cutbox-rows.mjs): the forced cells as the released guide's own fill.sh prints them over the translation ec290e2589aafe4c… (all of the seat's roots in one cut). By AI agents, Wed Nov 11 2026. No macro, syntax, notation, axiom, sorry.
-/
import Derived.Test.Qxb6602963aChecked
import GoSem.Claim
import GoSem.ClaimJoined
import GoSem.ClaimMapViews
import Derived.JoinedTies
import Derived.KernelRfl
namespace Go.Proofs.Qxb6602963a
/- THE CELL 'sum', in the pinned program and in every row, IS THE sha256 OF THE DUMP (.gsa) THAT Qxb6602963aProg.lean LOADS. Nothing in Lean hashes anything: it is a label: what it is worth is what the hold of that sum in a sandbox is worth. -/
noncomputable def Try.pinned : Pinned := { name := "qxb6602963a", sum := "ec290e2589aafe4c153e7d819559782b544ee243a75dc4fff29ee62977a520e2", checked := Try.checked }
namespace Rows
def none {H : Type} : Left H := { results := [], args := [] }

/-- 'zzlaws_root_b1.FnRotateKeepsOrderAndShiftsDepths': WHATEVER THE INPUT: true; the input reads as it did. -/
def fnRotateKeepsOrderAndShiftsDepthsSpec : ChangeSpec := { name := "fnRotateKeepsOrderAndShiftsDepths", fn := fun _ => fun
  | [d1, d2, d3, d4] => { results := [.lit (.bool true)], args := [d1, d2, d3, d4] }
  | _ => none }
def fnRotateKeepsOrderAndShiftsDepthsRow : OpenClaim := { program := "qxb6602963a", sum := "ec290e2589aafe4c153e7d819559782b544ee243a75dc4fff29ee62977a520e2", func := "example.com/ramify/ramify/zzlaws_root_b1.FnRotateKeepsOrderAndShiftsDepths", spec := "fnRotateKeepsOrderAndShiftsDepths", apart := false }
def FnRotateKeepsOrderAndShiftsDepthsSaid : Prop := fnRotateKeepsOrderAndShiftsDepthsRow.holds Try.pinned (OpenSpec.ofChange fnRotateKeepsOrderAndShiftsDepthsSpec)

/-- ITS FALSE NEIGHBOUR: 'it returns false'. Refute it at one input. -/
def fnRotateKeepsOrderAndShiftsDepthsWrong : ChangeSpec := { name := "fnRotateKeepsOrderAndShiftsDepths", fn := fun _ => fun
  | [d1, d2, d3, d4] => { results := [.lit (.bool false)], args := [d1, d2, d3, d4] }
  | _ => none }
def FnRotateKeepsOrderAndShiftsDepthsWrongFalsely : Prop := fnRotateKeepsOrderAndShiftsDepthsRow.holds Try.pinned (OpenSpec.ofChange fnRotateKeepsOrderAndShiftsDepthsWrong)

/-- 'zzlaws_root_b1.FnRotateUndoneByRotatingParent': WHATEVER THE INPUT: true; the input reads as it did. -/
def fnRotateUndoneByRotatingParentSpec : ChangeSpec := { name := "fnRotateUndoneByRotatingParent", fn := fun _ => fun
  | [d1, d2, d3, d4] => { results := [.lit (.bool true)], args := [d1, d2, d3, d4] }
  | _ => none }
def fnRotateUndoneByRotatingParentRow : OpenClaim := { program := "qxb6602963a", sum := "ec290e2589aafe4c153e7d819559782b544ee243a75dc4fff29ee62977a520e2", func := "example.com/ramify/ramify/zzlaws_root_b1.FnRotateUndoneByRotatingParent", spec := "fnRotateUndoneByRotatingParent", apart := false }
def FnRotateUndoneByRotatingParentSaid : Prop := fnRotateUndoneByRotatingParentRow.holds Try.pinned (OpenSpec.ofChange fnRotateUndoneByRotatingParentSpec)

/-- ITS FALSE NEIGHBOUR: 'it returns false'. Refute it at one input. -/
def fnRotateUndoneByRotatingParentWrong : ChangeSpec := { name := "fnRotateUndoneByRotatingParent", fn := fun _ => fun
  | [d1, d2, d3, d4] => { results := [.lit (.bool false)], args := [d1, d2, d3, d4] }
  | _ => none }
def FnRotateUndoneByRotatingParentWrongFalsely : Prop := fnRotateUndoneByRotatingParentRow.holds Try.pinned (OpenSpec.ofChange fnRotateUndoneByRotatingParentWrong)

/-- 'zzlaws_root_b1.FnDominatorsAnswersDominance': WHATEVER THE INPUT: true; the input reads as it did. -/
def fnDominatorsAnswersDominanceSpec : ChangeSpec := { name := "fnDominatorsAnswersDominance", fn := fun _ => fun
  | [d1, d2, d3] => { results := [.lit (.bool true)], args := [d1, d2, d3] }
  | _ => none }
def fnDominatorsAnswersDominanceRow : OpenClaim := { program := "qxb6602963a", sum := "ec290e2589aafe4c153e7d819559782b544ee243a75dc4fff29ee62977a520e2", func := "example.com/ramify/ramify/zzlaws_root_b1.FnDominatorsAnswersDominance", spec := "fnDominatorsAnswersDominance", unfollowed := true, recurses := true, apart := false }
def FnDominatorsAnswersDominanceSaid : Prop := fnDominatorsAnswersDominanceRow.holds Try.pinned (OpenSpec.ofChange fnDominatorsAnswersDominanceSpec)

/-- ITS FALSE NEIGHBOUR: 'it returns false'. Refute it at one input. -/
def fnDominatorsAnswersDominanceWrong : ChangeSpec := { name := "fnDominatorsAnswersDominance", fn := fun _ => fun
  | [d1, d2, d3] => { results := [.lit (.bool false)], args := [d1, d2, d3] }
  | _ => none }
def FnDominatorsAnswersDominanceWrongFalsely : Prop := fnDominatorsAnswersDominanceRow.holds Try.pinned (OpenSpec.ofChange fnDominatorsAnswersDominanceWrong)

/-- 'zzlaws_root_b1.FnDominatorsIgnoresOrderAndRepeatsOfEdges': WHATEVER THE INPUT: true; the input reads as it did. -/
def fnDominatorsIgnoresOrderAndRepeatsOfEdgesSpec : ChangeSpec := { name := "fnDominatorsIgnoresOrderAndRepeatsOfEdges", fn := fun _ => fun
  | [d1, d2, d3] => { results := [.lit (.bool true)], args := [d1, d2, d3] }
  | _ => none }
def fnDominatorsIgnoresOrderAndRepeatsOfEdgesRow : OpenClaim := { program := "qxb6602963a", sum := "ec290e2589aafe4c153e7d819559782b544ee243a75dc4fff29ee62977a520e2", func := "example.com/ramify/ramify/zzlaws_root_b1.FnDominatorsIgnoresOrderAndRepeatsOfEdges", spec := "fnDominatorsIgnoresOrderAndRepeatsOfEdges", unfollowed := true, recurses := true, apart := false }
def FnDominatorsIgnoresOrderAndRepeatsOfEdgesSaid : Prop := fnDominatorsIgnoresOrderAndRepeatsOfEdgesRow.holds Try.pinned (OpenSpec.ofChange fnDominatorsIgnoresOrderAndRepeatsOfEdgesSpec)

/-- ITS FALSE NEIGHBOUR: 'it returns false'. Refute it at one input. -/
def fnDominatorsIgnoresOrderAndRepeatsOfEdgesWrong : ChangeSpec := { name := "fnDominatorsIgnoresOrderAndRepeatsOfEdges", fn := fun _ => fun
  | [d1, d2, d3] => { results := [.lit (.bool false)], args := [d1, d2, d3] }
  | _ => none }
def FnDominatorsIgnoresOrderAndRepeatsOfEdgesWrongFalsely : Prop := fnDominatorsIgnoresOrderAndRepeatsOfEdgesRow.holds Try.pinned (OpenSpec.ofChange fnDominatorsIgnoresOrderAndRepeatsOfEdgesWrong)

/-- 'zzlaws_root_b1.FnNumberTreeMatchesSizeModel': WHATEVER THE INPUT: true; the input reads as it did. -/
def fnNumberTreeMatchesSizeModelSpec : ChangeSpec := { name := "fnNumberTreeMatchesSizeModel", fn := fun _ => fun
  | [d1, d2, d3] => { results := [.lit (.bool true)], args := [d1, d2, d3] }
  | _ => none }
def fnNumberTreeMatchesSizeModelRow : OpenClaim := { program := "qxb6602963a", sum := "ec290e2589aafe4c153e7d819559782b544ee243a75dc4fff29ee62977a520e2", func := "example.com/ramify/ramify/zzlaws_root_b1.FnNumberTreeMatchesSizeModel", spec := "fnNumberTreeMatchesSizeModel", apart := false }
def FnNumberTreeMatchesSizeModelSaid : Prop := fnNumberTreeMatchesSizeModelRow.holds Try.pinned (OpenSpec.ofChange fnNumberTreeMatchesSizeModelSpec)

/-- ITS FALSE NEIGHBOUR: 'it returns false'. Refute it at one input. -/
def fnNumberTreeMatchesSizeModelWrong : ChangeSpec := { name := "fnNumberTreeMatchesSizeModel", fn := fun _ => fun
  | [d1, d2, d3] => { results := [.lit (.bool false)], args := [d1, d2, d3] }
  | _ => none }
def FnNumberTreeMatchesSizeModelWrongFalsely : Prop := fnNumberTreeMatchesSizeModelRow.holds Try.pinned (OpenSpec.ofChange fnNumberTreeMatchesSizeModelWrong)

end Rows
end Go.Proofs.Qxb6602963a
