/-
  No cell of these rows narrows 'for every input' (looked for: loops, veiled, ifaces, maps, wideKeys, modest, calm, conditions, laid).
  DERIVED. THE GIVEN ROWS OF THIS SEAT. 5 by the template 'for every input the law returns true; each argument reads behind the call as it read before'; 0 by the template 'total and deterministic' (their statements: Qxb6614005aTotals.lean).
  GIVEN WITH THE SEED: the statements are not yours to turn. If you find one false, say at which input.
  Laid BY PROGRAM, IN A SANDBOX (cutbox-rows.mjs): the forced cells as the released guide's own fill.sh prints them over the translation 9edfd282b0bf072a… (all of the seat's roots in one cut). By AI agents, Wed Nov 11 2026. No macro, syntax, notation, axiom, sorry.
-/
import Derived.Test.Qxb6614005aChecked
import GoSem.Claim
import GoSem.ClaimJoined
import GoSem.ClaimMapViews
import Derived.JoinedTies
import Derived.KernelRfl
namespace Go.Proofs.Qxb6614005a
/- THE CELL 'sum', in the pinned program and in every row, IS THE sha256 OF THE DUMP (.gsa) THAT Qxb6614005aProg.lean LOADS. Nothing in Lean hashes anything: it is a label: what it is worth is what the hold of that sum in a sandbox is worth. -/
noncomputable def Try.pinned : Pinned := { name := "qxb6614005a", sum := "9edfd282b0bf072add1c771ca2c84a16468a0cca55cd1cca8a37c4c6c1b710f9", checked := Try.checked }
namespace Rows
def none {H : Type} : Left H := { results := [], args := [] }

/-- 'zzlaws_store_b1.FnNotInCodeASCIICaseFreeSixtyFour': WHATEVER THE INPUT: true; the input reads as it did. -/
def fnNotInCodeASCIICaseFreeSixtyFourSpec : ChangeSpec := { name := "fnNotInCodeASCIICaseFreeSixtyFour", fn := fun _ => fun
  | [d] => { results := [.lit (.bool true)], args := [d] }
  | _ => none }
def fnNotInCodeASCIICaseFreeSixtyFourRow : OpenClaim := { program := "qxb6614005a", sum := "9edfd282b0bf072add1c771ca2c84a16468a0cca55cd1cca8a37c4c6c1b710f9", func := "example.com/reseller-commission/reseller-commission/zzlaws_store_b1.FnNotInCodeASCIICaseFreeSixtyFour", spec := "fnNotInCodeASCIICaseFreeSixtyFour", apart := false }
def FnNotInCodeASCIICaseFreeSixtyFourSaid : Prop := fnNotInCodeASCIICaseFreeSixtyFourRow.holds Try.pinned (OpenSpec.ofChange fnNotInCodeASCIICaseFreeSixtyFourSpec)

/-- ITS FALSE NEIGHBOUR: 'it returns false'. Refute it at one input. -/
def fnNotInCodeASCIICaseFreeSixtyFourWrong : ChangeSpec := { name := "fnNotInCodeASCIICaseFreeSixtyFour", fn := fun _ => fun
  | [d] => { results := [.lit (.bool false)], args := [d] }
  | _ => none }
def FnNotInCodeASCIICaseFreeSixtyFourWrongFalsely : Prop := fnNotInCodeASCIICaseFreeSixtyFourRow.holds Try.pinned (OpenSpec.ofChange fnNotInCodeASCIICaseFreeSixtyFourWrong)

/-- 'zzlaws_store_b1.FnSummedOfSplicesCondBeforeItsLastParen': WHATEVER THE INPUT: true; the input reads as it did. -/
def fnSummedOfSplicesCondBeforeItsLastParenSpec : ChangeSpec := { name := "fnSummedOfSplicesCondBeforeItsLastParen", fn := fun _ => fun
  | [d1, d2] => { results := [.lit (.bool true)], args := [d1, d2] }
  | _ => none }
def fnSummedOfSplicesCondBeforeItsLastParenRow : OpenClaim := { program := "qxb6614005a", sum := "9edfd282b0bf072add1c771ca2c84a16468a0cca55cd1cca8a37c4c6c1b710f9", func := "example.com/reseller-commission/reseller-commission/zzlaws_store_b1.FnSummedOfSplicesCondBeforeItsLastParen", spec := "fnSummedOfSplicesCondBeforeItsLastParen", apart := false }
def FnSummedOfSplicesCondBeforeItsLastParenSaid : Prop := fnSummedOfSplicesCondBeforeItsLastParenRow.holds Try.pinned (OpenSpec.ofChange fnSummedOfSplicesCondBeforeItsLastParenSpec)

/-- ITS FALSE NEIGHBOUR: 'it returns false'. Refute it at one input. -/
def fnSummedOfSplicesCondBeforeItsLastParenWrong : ChangeSpec := { name := "fnSummedOfSplicesCondBeforeItsLastParen", fn := fun _ => fun
  | [d1, d2] => { results := [.lit (.bool false)], args := [d1, d2] }
  | _ => none }
def FnSummedOfSplicesCondBeforeItsLastParenWrongFalsely : Prop := fnSummedOfSplicesCondBeforeItsLastParenRow.holds Try.pinned (OpenSpec.ofChange fnSummedOfSplicesCondBeforeItsLastParenWrong)

/-- 'zzlaws_store_b1.FnSummedOfIsOneParenthesisedGroup': WHATEVER THE INPUT: true; the input reads as it did. -/
def fnSummedOfIsOneParenthesisedGroupSpec : ChangeSpec := { name := "fnSummedOfIsOneParenthesisedGroup", fn := fun _ => fun
  | [d] => { results := [.lit (.bool true)], args := [d] }
  | _ => none }
def fnSummedOfIsOneParenthesisedGroupRow : OpenClaim := { program := "qxb6614005a", sum := "9edfd282b0bf072add1c771ca2c84a16468a0cca55cd1cca8a37c4c6c1b710f9", func := "example.com/reseller-commission/reseller-commission/zzlaws_store_b1.FnSummedOfIsOneParenthesisedGroup", spec := "fnSummedOfIsOneParenthesisedGroup", apart := false }
def FnSummedOfIsOneParenthesisedGroupSaid : Prop := fnSummedOfIsOneParenthesisedGroupRow.holds Try.pinned (OpenSpec.ofChange fnSummedOfIsOneParenthesisedGroupSpec)

/-- ITS FALSE NEIGHBOUR: 'it returns false'. Refute it at one input. -/
def fnSummedOfIsOneParenthesisedGroupWrong : ChangeSpec := { name := "fnSummedOfIsOneParenthesisedGroup", fn := fun _ => fun
  | [d] => { results := [.lit (.bool false)], args := [d] }
  | _ => none }
def FnSummedOfIsOneParenthesisedGroupWrongFalsely : Prop := fnSummedOfIsOneParenthesisedGroupRow.holds Try.pinned (OpenSpec.ofChange fnSummedOfIsOneParenthesisedGroupWrong)

/-- 'zzlaws_store_b1.FnBoundedPutsAmountInBothHoles': WHATEVER THE INPUT: true; the input reads as it did. -/
def fnBoundedPutsAmountInBothHolesSpec : ChangeSpec := { name := "fnBoundedPutsAmountInBothHoles", fn := fun _ => fun
  | [d] => { results := [.lit (.bool true)], args := [d] }
  | _ => none }
def fnBoundedPutsAmountInBothHolesRow : OpenClaim := { program := "qxb6614005a", sum := "9edfd282b0bf072add1c771ca2c84a16468a0cca55cd1cca8a37c4c6c1b710f9", func := "example.com/reseller-commission/reseller-commission/zzlaws_store_b1.FnBoundedPutsAmountInBothHoles", spec := "fnBoundedPutsAmountInBothHoles", apart := false }
def FnBoundedPutsAmountInBothHolesSaid : Prop := fnBoundedPutsAmountInBothHolesRow.holds Try.pinned (OpenSpec.ofChange fnBoundedPutsAmountInBothHolesSpec)

/-- ITS FALSE NEIGHBOUR: 'it returns false'. Refute it at one input. -/
def fnBoundedPutsAmountInBothHolesWrong : ChangeSpec := { name := "fnBoundedPutsAmountInBothHoles", fn := fun _ => fun
  | [d] => { results := [.lit (.bool false)], args := [d] }
  | _ => none }
def FnBoundedPutsAmountInBothHolesWrongFalsely : Prop := fnBoundedPutsAmountInBothHolesRow.holds Try.pinned (OpenSpec.ofChange fnBoundedPutsAmountInBothHolesWrong)

/-- 'zzlaws_store_b1.FnBoundedKeepsParenthesesBalanced': WHATEVER THE INPUT: true; the input reads as it did. -/
def fnBoundedKeepsParenthesesBalancedSpec : ChangeSpec := { name := "fnBoundedKeepsParenthesesBalanced", fn := fun _ => fun
  | [d] => { results := [.lit (.bool true)], args := [d] }
  | _ => none }
def fnBoundedKeepsParenthesesBalancedRow : OpenClaim := { program := "qxb6614005a", sum := "9edfd282b0bf072add1c771ca2c84a16468a0cca55cd1cca8a37c4c6c1b710f9", func := "example.com/reseller-commission/reseller-commission/zzlaws_store_b1.FnBoundedKeepsParenthesesBalanced", spec := "fnBoundedKeepsParenthesesBalanced", apart := false }
def FnBoundedKeepsParenthesesBalancedSaid : Prop := fnBoundedKeepsParenthesesBalancedRow.holds Try.pinned (OpenSpec.ofChange fnBoundedKeepsParenthesesBalancedSpec)

/-- ITS FALSE NEIGHBOUR: 'it returns false'. Refute it at one input. -/
def fnBoundedKeepsParenthesesBalancedWrong : ChangeSpec := { name := "fnBoundedKeepsParenthesesBalanced", fn := fun _ => fun
  | [d] => { results := [.lit (.bool false)], args := [d] }
  | _ => none }
def FnBoundedKeepsParenthesesBalancedWrongFalsely : Prop := fnBoundedKeepsParenthesesBalancedRow.holds Try.pinned (OpenSpec.ofChange fnBoundedKeepsParenthesesBalancedWrong)

end Rows
end Go.Proofs.Qxb6614005a
