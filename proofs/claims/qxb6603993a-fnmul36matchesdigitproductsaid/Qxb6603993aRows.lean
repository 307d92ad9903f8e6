/-
  No cell of these rows narrows 'for every input' (looked for: loops, veiled, ifaces, maps, wideKeys, modest, calm, conditions, laid).
  DERIVED. THE GIVEN ROWS OF THIS SEAT. 5 by the template 'for every input the law returns true; each argument reads behind the call as it read before'; 0 by the template 'total and deterministic' (their statements: Qxb6603993aTotals.lean).
  GIVEN WITH THE SEED: the statements are not yours to turn. If you find one false, say at which input.
  Laid BY PROGRAM, IN A SANDBOX (cutbox-rows.mjs): the forced cells as the released guide's own fill.sh prints them over the translation ddc0a19d2d7eacc8… (all of the seat's roots in one cut). By AI agents, Wed Nov 11 2026. No macro, syntax, notation, axiom, sorry.
-/
import Derived.Test.Qxb6603993aChecked
import GoSem.Claim
import GoSem.ClaimJoined
import GoSem.ClaimMapViews
import Derived.JoinedTies
import Derived.KernelRfl
namespace Go.Proofs.Qxb6603993a
/- THE CELL 'sum', in the pinned program and in every row, IS THE sha256 OF THE DUMP (.gsa) THAT Qxb6603993aProg.lean LOADS. Nothing in Lean hashes anything: it is a label: what it is worth is what the hold of that sum in a sandbox is worth. -/
noncomputable def Try.pinned : Pinned := { name := "qxb6603993a", sum := "ddc0a19d2d7eacc8b035c7998e7655994433e8d2809573e7a9125d26ecc92103", checked := Try.checked }
namespace Rows
def none {H : Type} : Left H := { results := [], args := [] }

/-- 'zzlaws_internal_decimal_b1.FnCmp18MatchesValueOrder': WHATEVER THE INPUT: true; the input reads as it did. -/
def fnCmp18MatchesValueOrderSpec : ChangeSpec := { name := "fnCmp18MatchesValueOrder", fn := fun _ => fun
  | [d1, d2, d3, d4, d5, d6] => { results := [.lit (.bool true)], args := [d1, d2, d3, d4, d5, d6] }
  | _ => none }
def fnCmp18MatchesValueOrderRow : OpenClaim := { program := "qxb6603993a", sum := "ddc0a19d2d7eacc8b035c7998e7655994433e8d2809573e7a9125d26ecc92103", func := "example.com/kezhuan/kezhuan/zzlaws_internal_decimal_b1.FnCmp18MatchesValueOrder", spec := "fnCmp18MatchesValueOrder", apart := false }
def FnCmp18MatchesValueOrderSaid : Prop := fnCmp18MatchesValueOrderRow.holds Try.pinned (OpenSpec.ofChange fnCmp18MatchesValueOrderSpec)

/-- ITS FALSE NEIGHBOUR: 'it returns false'. Refute it at one input. -/
def fnCmp18MatchesValueOrderWrong : ChangeSpec := { name := "fnCmp18MatchesValueOrder", fn := fun _ => fun
  | [d1, d2, d3, d4, d5, d6] => { results := [.lit (.bool false)], args := [d1, d2, d3, d4, d5, d6] }
  | _ => none }
def FnCmp18MatchesValueOrderWrongFalsely : Prop := fnCmp18MatchesValueOrderRow.holds Try.pinned (OpenSpec.ofChange fnCmp18MatchesValueOrderWrong)

/-- 'zzlaws_internal_decimal_b1.FnMul36MatchesDigitProduct': WHATEVER THE INPUT: true; the input reads as it did. -/
def fnMul36MatchesDigitProductSpec : ChangeSpec := { name := "fnMul36MatchesDigitProduct", fn := fun _ => fun
  | [d1, d2, d3, d4, d5, d6, d7, d8] => { results := [.lit (.bool true)], args := [d1, d2, d3, d4, d5, d6, d7, d8] }
  | _ => none }
def fnMul36MatchesDigitProductRow : OpenClaim := { program := "qxb6603993a", sum := "ddc0a19d2d7eacc8b035c7998e7655994433e8d2809573e7a9125d26ecc92103", func := "example.com/kezhuan/kezhuan/zzlaws_internal_decimal_b1.FnMul36MatchesDigitProduct", spec := "fnMul36MatchesDigitProduct", apart := false }
def FnMul36MatchesDigitProductSaid : Prop := fnMul36MatchesDigitProductRow.holds Try.pinned (OpenSpec.ofChange fnMul36MatchesDigitProductSpec)

/-- ITS FALSE NEIGHBOUR: 'it returns false'. Refute it at one input. -/
def fnMul36MatchesDigitProductWrong : ChangeSpec := { name := "fnMul36MatchesDigitProduct", fn := fun _ => fun
  | [d1, d2, d3, d4, d5, d6, d7, d8] => { results := [.lit (.bool false)], args := [d1, d2, d3, d4, d5, d6, d7, d8] }
  | _ => none }
def FnMul36MatchesDigitProductWrongFalsely : Prop := fnMul36MatchesDigitProductRow.holds Try.pinned (OpenSpec.ofChange fnMul36MatchesDigitProductWrong)

/-- 'zzlaws_internal_decimal_b1.FnMul36ByOneAndMinusOne': WHATEVER THE INPUT: true; the input reads as it did. -/
def fnMul36ByOneAndMinusOneSpec : ChangeSpec := { name := "fnMul36ByOneAndMinusOne", fn := fun _ => fun
  | [d1, d2, d3, d4] => { results := [.lit (.bool true)], args := [d1, d2, d3, d4] }
  | _ => none }
def fnMul36ByOneAndMinusOneRow : OpenClaim := { program := "qxb6603993a", sum := "ddc0a19d2d7eacc8b035c7998e7655994433e8d2809573e7a9125d26ecc92103", func := "example.com/kezhuan/kezhuan/zzlaws_internal_decimal_b1.FnMul36ByOneAndMinusOne", spec := "fnMul36ByOneAndMinusOne", apart := false }
def FnMul36ByOneAndMinusOneSaid : Prop := fnMul36ByOneAndMinusOneRow.holds Try.pinned (OpenSpec.ofChange fnMul36ByOneAndMinusOneSpec)

/-- ITS FALSE NEIGHBOUR: 'it returns false'. Refute it at one input. -/
def fnMul36ByOneAndMinusOneWrong : ChangeSpec := { name := "fnMul36ByOneAndMinusOne", fn := fun _ => fun
  | [d1, d2, d3, d4] => { results := [.lit (.bool false)], args := [d1, d2, d3, d4] }
  | _ => none }
def FnMul36ByOneAndMinusOneWrongFalsely : Prop := fnMul36ByOneAndMinusOneRow.holds Try.pinned (OpenSpec.ofChange fnMul36ByOneAndMinusOneWrong)

/-- 'zzlaws_internal_decimal_b1.FnRoundedUp36AddsOneUnit': WHATEVER THE INPUT: true; the input reads as it did. -/
def fnRoundedUp36AddsOneUnitSpec : ChangeSpec := { name := "fnRoundedUp36AddsOneUnit", fn := fun _ => fun
  | [d1, d2, d3, d4, d5] => { results := [.lit (.bool true)], args := [d1, d2, d3, d4, d5] }
  | _ => none }
def fnRoundedUp36AddsOneUnitRow : OpenClaim := { program := "qxb6603993a", sum := "ddc0a19d2d7eacc8b035c7998e7655994433e8d2809573e7a9125d26ecc92103", func := "example.com/kezhuan/kezhuan/zzlaws_internal_decimal_b1.FnRoundedUp36AddsOneUnit", spec := "fnRoundedUp36AddsOneUnit", apart := false }
def FnRoundedUp36AddsOneUnitSaid : Prop := fnRoundedUp36AddsOneUnitRow.holds Try.pinned (OpenSpec.ofChange fnRoundedUp36AddsOneUnitSpec)

/-- ITS FALSE NEIGHBOUR: 'it returns false'. Refute it at one input. -/
def fnRoundedUp36AddsOneUnitWrong : ChangeSpec := { name := "fnRoundedUp36AddsOneUnit", fn := fun _ => fun
  | [d1, d2, d3, d4, d5] => { results := [.lit (.bool false)], args := [d1, d2, d3, d4, d5] }
  | _ => none }
def FnRoundedUp36AddsOneUnitWrongFalsely : Prop := fnRoundedUp36AddsOneUnitRow.holds Try.pinned (OpenSpec.ofChange fnRoundedUp36AddsOneUnitWrong)

/-- 'zzlaws_internal_decimal_b1.FnRoundedUp36KeepsFormAndGrows': WHATEVER THE INPUT: true; the input reads as it did. -/
def fnRoundedUp36KeepsFormAndGrowsSpec : ChangeSpec := { name := "fnRoundedUp36KeepsFormAndGrows", fn := fun _ => fun
  | [d1, d2, d3, d4] => { results := [.lit (.bool true)], args := [d1, d2, d3, d4] }
  | _ => none }
def fnRoundedUp36KeepsFormAndGrowsRow : OpenClaim := { program := "qxb6603993a", sum := "ddc0a19d2d7eacc8b035c7998e7655994433e8d2809573e7a9125d26ecc92103", func := "example.com/kezhuan/kezhuan/zzlaws_internal_decimal_b1.FnRoundedUp36KeepsFormAndGrows", spec := "fnRoundedUp36KeepsFormAndGrows", apart := false }
def FnRoundedUp36KeepsFormAndGrowsSaid : Prop := fnRoundedUp36KeepsFormAndGrowsRow.holds Try.pinned (OpenSpec.ofChange fnRoundedUp36KeepsFormAndGrowsSpec)

/-- ITS FALSE NEIGHBOUR: 'it returns false'. Refute it at one input. -/
def fnRoundedUp36KeepsFormAndGrowsWrong : ChangeSpec := { name := "fnRoundedUp36KeepsFormAndGrows", fn := fun _ => fun
  | [d1, d2, d3, d4] => { results := [.lit (.bool false)], args := [d1, d2, d3, d4] }
  | _ => none }
def FnRoundedUp36KeepsFormAndGrowsWrongFalsely : Prop := fnRoundedUp36KeepsFormAndGrowsRow.holds Try.pinned (OpenSpec.ofChange fnRoundedUp36KeepsFormAndGrowsWrong)

end Rows
end Go.Proofs.Qxb6603993a
