/-
  No cell of these rows narrows 'for every input' (looked for: loops, veiled, ifaces, maps, wideKeys, modest, calm, conditions, laid).
  DERIVED. THE GIVEN ROWS OF THIS SEAT. 2 by the template 'for every input the law returns true; each argument reads behind the call as it read before'; 0 by the template 'total and deterministic' (their statements: Qxb6614077aTotals.lean).
  GIVEN WITH THE SEED: the statements are not yours to turn. If you find one false, say at which input.
  Laid BY PROGRAM, IN A SANDBOX (cutbox-rows.mjs): the forced cells as the released guide's own fill.sh prints them over the translation 623811c56475a79d… (all of the seat's roots in one cut). By AI agents, Wed Nov 11 2026. No macro, syntax, notation, axiom, sorry.
-/
import Derived.Test.Qxb6614077aChecked
import GoSem.Claim
import GoSem.ClaimJoined
import GoSem.ClaimMapViews
import Derived.JoinedTies
import Derived.KernelRfl
namespace Go.Proofs.Qxb6614077a
/- THE CELL 'sum', in the pinned program and in every row, IS THE sha256 OF THE DUMP (.gsa) THAT Qxb6614077aProg.lean LOADS. Nothing in Lean hashes anything: it is a label: what it is worth is what the hold of that sum in a sandbox is worth. -/
noncomputable def Try.pinned : Pinned := { name := "qxb6614077a", sum := "623811c56475a79d5b4d2494752dc0f4c4539ce9eb68c9663b6e3ce2eabfd61a", checked := Try.checked }
namespace Rows
def none {H : Type} : Left H := { results := [], args := [] }

/-- 'zzlaws_internal_failover_b1.FnBucketsHasComplementAndCount': WHATEVER THE INPUT: true; the input reads as it did. -/
def fnBucketsHasComplementAndCountSpec : ChangeSpec := { name := "fnBucketsHasComplementAndCount", fn := fun _ => fun
  | [d] => { results := [.lit (.bool true)], args := [d] }
  | _ => none }
def fnBucketsHasComplementAndCountRow : OpenClaim := { program := "qxb6614077a", sum := "623811c56475a79d5b4d2494752dc0f4c4539ce9eb68c9663b6e3ce2eabfd61a", func := "example.com/twinlease/twinlease/zzlaws_internal_failover_b1.FnBucketsHasComplementAndCount", spec := "fnBucketsHasComplementAndCount", apart := false }
def FnBucketsHasComplementAndCountSaid : Prop := fnBucketsHasComplementAndCountRow.holds Try.pinned (OpenSpec.ofChange fnBucketsHasComplementAndCountSpec)

/-- ITS FALSE NEIGHBOUR: 'it returns false'. Refute it at one input. -/
def fnBucketsHasComplementAndCountWrong : ChangeSpec := { name := "fnBucketsHasComplementAndCount", fn := fun _ => fun
  | [d] => { results := [.lit (.bool false)], args := [d] }
  | _ => none }
def FnBucketsHasComplementAndCountWrongFalsely : Prop := fnBucketsHasComplementAndCountRow.holds Try.pinned (OpenSpec.ofChange fnBucketsHasComplementAndCountWrong)

/-- 'zzlaws_internal_failover_b1.FnBucketsHasOctetsAndDoubling': WHATEVER THE INPUT: true; the input reads as it did. -/
def fnBucketsHasOctetsAndDoublingSpec : ChangeSpec := { name := "fnBucketsHasOctetsAndDoubling", fn := fun _ => fun
  | [d] => { results := [.lit (.bool true)], args := [d] }
  | _ => none }
def fnBucketsHasOctetsAndDoublingRow : OpenClaim := { program := "qxb6614077a", sum := "623811c56475a79d5b4d2494752dc0f4c4539ce9eb68c9663b6e3ce2eabfd61a", func := "example.com/twinlease/twinlease/zzlaws_internal_failover_b1.FnBucketsHasOctetsAndDoubling", spec := "fnBucketsHasOctetsAndDoubling", apart := false }
def FnBucketsHasOctetsAndDoublingSaid : Prop := fnBucketsHasOctetsAndDoublingRow.holds Try.pinned (OpenSpec.ofChange fnBucketsHasOctetsAndDoublingSpec)

/-- ITS FALSE NEIGHBOUR: 'it returns false'. Refute it at one input. -/
def fnBucketsHasOctetsAndDoublingWrong : ChangeSpec := { name := "fnBucketsHasOctetsAndDoubling", fn := fun _ => fun
  | [d] => { results := [.lit (.bool false)], args := [d] }
  | _ => none }
def FnBucketsHasOctetsAndDoublingWrongFalsely : Prop := fnBucketsHasOctetsAndDoublingRow.holds Try.pinned (OpenSpec.ofChange fnBucketsHasOctetsAndDoublingWrong)

end Rows
end Go.Proofs.Qxb6614077a
