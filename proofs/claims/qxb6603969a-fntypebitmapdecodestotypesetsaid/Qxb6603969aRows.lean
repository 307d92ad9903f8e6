/-
  No cell of these rows narrows 'for every input' (looked for: loops, veiled, ifaces, maps, wideKeys, modest, calm, conditions, laid).
  DERIVED. THE GIVEN ROWS OF THIS SEAT. 5 by the template 'for every input the law returns true; each argument reads behind the call as it read before'; 0 by the template 'total and deterministic' (their statements: Qxb6603969aTotals.lean).
  GIVEN WITH THE SEED: the statements are not yours to turn. If you find one false, say at which input.
  Laid BY PROGRAM, IN A SANDBOX (cutbox-rows.mjs): the forced cells as the released guide's own fill.sh prints them over the translation 055cfd23e627d146… (all of the seat's roots in one cut). By AI agents, Wed Nov 11 2026. No macro, syntax, notation, axiom, sorry.
-/
import Derived.Test.Qxb6603969aChecked
import GoSem.Claim
import GoSem.ClaimJoined
import GoSem.ClaimMapViews
import Derived.JoinedTies
import Derived.KernelRfl
namespace Go.Proofs.Qxb6603969a
/- THE CELL 'sum', in the pinned program and in every row, IS THE sha256 OF THE DUMP (.gsa) THAT Qxb6603969aProg.lean LOADS. Nothing in Lean hashes anything: it is a label: what it is worth is what the hold of that sum in a sandbox is worth. -/
noncomputable def Try.pinned : Pinned := { name := "qxb6603969a", sum := "055cfd23e627d14676c1c7fc45c4c3e13d6bbbd104a02135487d87fd2b0670c2", checked := Try.checked }
namespace Rows
def none {H : Type} : Left H := { results := [], args := [] }

/-- 'zzlaws_records_b1.FnPresentationReadsBackExactly': WHATEVER THE INPUT: true; the input reads as it did. -/
def fnPresentationReadsBackExactlySpec : ChangeSpec := { name := "fnPresentationReadsBackExactly", fn := fun _ => fun
  | [d1, d2] => { results := [.lit (.bool true)], args := [d1, d2] }
  | _ => none }
def fnPresentationReadsBackExactlyRow : OpenClaim := { program := "qxb6603969a", sum := "055cfd23e627d14676c1c7fc45c4c3e13d6bbbd104a02135487d87fd2b0670c2", func := "example.com/zonewright/zonewright/zzlaws_records_b1.FnPresentationReadsBackExactly", spec := "fnPresentationReadsBackExactly", apart := false }
def FnPresentationReadsBackExactlySaid : Prop := fnPresentationReadsBackExactlyRow.holds Try.pinned (OpenSpec.ofChange fnPresentationReadsBackExactlySpec)

/-- ITS FALSE NEIGHBOUR: 'it returns false'. Refute it at one input. -/
def fnPresentationReadsBackExactlyWrong : ChangeSpec := { name := "fnPresentationReadsBackExactly", fn := fun _ => fun
  | [d1, d2] => { results := [.lit (.bool false)], args := [d1, d2] }
  | _ => none }
def FnPresentationReadsBackExactlyWrongFalsely : Prop := fnPresentationReadsBackExactlyRow.holds Try.pinned (OpenSpec.ofChange fnPresentationReadsBackExactlyWrong)

/-- 'zzlaws_records_b1.FnPresentationSeparatesNames': WHATEVER THE INPUT: true; the input reads as it did. -/
def fnPresentationSeparatesNamesSpec : ChangeSpec := { name := "fnPresentationSeparatesNames", fn := fun _ => fun
  | [d1, d2] => { results := [.lit (.bool true)], args := [d1, d2] }
  | _ => none }
def fnPresentationSeparatesNamesRow : OpenClaim := { program := "qxb6603969a", sum := "055cfd23e627d14676c1c7fc45c4c3e13d6bbbd104a02135487d87fd2b0670c2", func := "example.com/zonewright/zonewright/zzlaws_records_b1.FnPresentationSeparatesNames", spec := "fnPresentationSeparatesNames", apart := false }
def FnPresentationSeparatesNamesSaid : Prop := fnPresentationSeparatesNamesRow.holds Try.pinned (OpenSpec.ofChange fnPresentationSeparatesNamesSpec)

/-- ITS FALSE NEIGHBOUR: 'it returns false'. Refute it at one input. -/
def fnPresentationSeparatesNamesWrong : ChangeSpec := { name := "fnPresentationSeparatesNames", fn := fun _ => fun
  | [d1, d2] => { results := [.lit (.bool false)], args := [d1, d2] }
  | _ => none }
def FnPresentationSeparatesNamesWrongFalsely : Prop := fnPresentationSeparatesNamesRow.holds Try.pinned (OpenSpec.ofChange fnPresentationSeparatesNamesWrong)

/-- 'zzlaws_records_b1.FnCanonicalKeyDecodesToLowerLabels': WHATEVER THE INPUT: true; the input reads as it did. -/
def fnCanonicalKeyDecodesToLowerLabelsSpec : ChangeSpec := { name := "fnCanonicalKeyDecodesToLowerLabels", fn := fun _ => fun
  | [d1, d2] => { results := [.lit (.bool true)], args := [d1, d2] }
  | _ => none }
def fnCanonicalKeyDecodesToLowerLabelsRow : OpenClaim := { program := "qxb6603969a", sum := "055cfd23e627d14676c1c7fc45c4c3e13d6bbbd104a02135487d87fd2b0670c2", func := "example.com/zonewright/zonewright/zzlaws_records_b1.FnCanonicalKeyDecodesToLowerLabels", spec := "fnCanonicalKeyDecodesToLowerLabels", apart := false }
def FnCanonicalKeyDecodesToLowerLabelsSaid : Prop := fnCanonicalKeyDecodesToLowerLabelsRow.holds Try.pinned (OpenSpec.ofChange fnCanonicalKeyDecodesToLowerLabelsSpec)

/-- ITS FALSE NEIGHBOUR: 'it returns false'. Refute it at one input. -/
def fnCanonicalKeyDecodesToLowerLabelsWrong : ChangeSpec := { name := "fnCanonicalKeyDecodesToLowerLabels", fn := fun _ => fun
  | [d1, d2] => { results := [.lit (.bool false)], args := [d1, d2] }
  | _ => none }
def FnCanonicalKeyDecodesToLowerLabelsWrongFalsely : Prop := fnCanonicalKeyDecodesToLowerLabelsRow.holds Try.pinned (OpenSpec.ofChange fnCanonicalKeyDecodesToLowerLabelsWrong)

/-- 'zzlaws_records_b1.FnCanonicalKeyOrderIsCanonicalOrder': WHATEVER THE INPUT: true; the input reads as it did. -/
def fnCanonicalKeyOrderIsCanonicalOrderSpec : ChangeSpec := { name := "fnCanonicalKeyOrderIsCanonicalOrder", fn := fun _ => fun
  | [d1, d2] => { results := [.lit (.bool true)], args := [d1, d2] }
  | _ => none }
def fnCanonicalKeyOrderIsCanonicalOrderRow : OpenClaim := { program := "qxb6603969a", sum := "055cfd23e627d14676c1c7fc45c4c3e13d6bbbd104a02135487d87fd2b0670c2", func := "example.com/zonewright/zonewright/zzlaws_records_b1.FnCanonicalKeyOrderIsCanonicalOrder", spec := "fnCanonicalKeyOrderIsCanonicalOrder", apart := false }
def FnCanonicalKeyOrderIsCanonicalOrderSaid : Prop := fnCanonicalKeyOrderIsCanonicalOrderRow.holds Try.pinned (OpenSpec.ofChange fnCanonicalKeyOrderIsCanonicalOrderSpec)

/-- ITS FALSE NEIGHBOUR: 'it returns false'. Refute it at one input. -/
def fnCanonicalKeyOrderIsCanonicalOrderWrong : ChangeSpec := { name := "fnCanonicalKeyOrderIsCanonicalOrder", fn := fun _ => fun
  | [d1, d2] => { results := [.lit (.bool false)], args := [d1, d2] }
  | _ => none }
def FnCanonicalKeyOrderIsCanonicalOrderWrongFalsely : Prop := fnCanonicalKeyOrderIsCanonicalOrderRow.holds Try.pinned (OpenSpec.ofChange fnCanonicalKeyOrderIsCanonicalOrderWrong)

/-- 'zzlaws_records_b1.FnTypeBitmapDecodesToTypeSet': WHATEVER THE INPUT: true; the input reads as it did. -/
def fnTypeBitmapDecodesToTypeSetSpec : ChangeSpec := { name := "fnTypeBitmapDecodesToTypeSet", fn := fun _ => fun
  | [d1, d2] => { results := [.lit (.bool true)], args := [d1, d2] }
  | _ => none }
def fnTypeBitmapDecodesToTypeSetRow : OpenClaim := { program := "qxb6603969a", sum := "055cfd23e627d14676c1c7fc45c4c3e13d6bbbd104a02135487d87fd2b0670c2", func := "example.com/zonewright/zonewright/zzlaws_records_b1.FnTypeBitmapDecodesToTypeSet", spec := "fnTypeBitmapDecodesToTypeSet", recurses := true, apart := false }
def FnTypeBitmapDecodesToTypeSetSaid : Prop := fnTypeBitmapDecodesToTypeSetRow.holds Try.pinned (OpenSpec.ofChange fnTypeBitmapDecodesToTypeSetSpec)

/-- ITS FALSE NEIGHBOUR: 'it returns false'. Refute it at one input. -/
def fnTypeBitmapDecodesToTypeSetWrong : ChangeSpec := { name := "fnTypeBitmapDecodesToTypeSet", fn := fun _ => fun
  | [d1, d2] => { results := [.lit (.bool false)], args := [d1, d2] }
  | _ => none }
def FnTypeBitmapDecodesToTypeSetWrongFalsely : Prop := fnTypeBitmapDecodesToTypeSetRow.holds Try.pinned (OpenSpec.ofChange fnTypeBitmapDecodesToTypeSetWrong)

end Rows
end Go.Proofs.Qxb6603969a
