/-
  No cell of these rows narrows 'for every input' (looked for: loops, veiled, ifaces, maps, wideKeys, modest, calm, conditions, laid).
  DERIVED. THE GIVEN ROWS OF THIS SEAT. 1 by the template 'for every input the law returns true; each argument reads behind the call as it read before'; 0 by the template 'total and deterministic' (their statements: Qxb6613192aTotals.lean).
  GIVEN WITH THE SEED: the statements are not yours to turn. If you find one false, say at which input.
  Laid BY PROGRAM, IN A SANDBOX (cutbox-rows.mjs): the forced cells as the released guide's own fill.sh prints them over the translation 320ba7d23c9e298c… (all of the seat's roots in one cut). By AI agents, Wed Nov 11 2026. No macro, syntax, notation, axiom, sorry.
-/
import Derived.Test.Qxb6613192aChecked
import GoSem.Claim
import GoSem.ClaimJoined
import GoSem.ClaimMapViews
import Derived.JoinedTies
import Derived.KernelRfl
namespace Go.Proofs.Qxb6613192a
/- THE CELL 'sum', in the pinned program and in every row, IS THE sha256 OF THE DUMP (.gsa) THAT Qxb6613192aProg.lean LOADS. Nothing in Lean hashes anything: it is a label: what it is worth is what the hold of that sum in a sandbox is worth. -/
noncomputable def Try.pinned : Pinned := { name := "qxb6613192a", sum := "320ba7d23c9e298cdd4813002a13aa98c2afd400d2e5d61f6bab6b59cdbb2804", checked := Try.checked }
namespace Rows
def none {H : Type} : Left H := { results := [], args := [] }

/-- 'zzlaws_root_b1.FnDefaultWatchSettingsAreFreshAndAsDocumented': WHATEVER THE INPUT: true; the input reads as it did. -/
def fnDefaultWatchSettingsAreFreshAndAsDocumentedSpec : ChangeSpec := { name := "fnDefaultWatchSettingsAreFreshAndAsDocumented", fn := fun _ => fun
  | [] => { results := [.lit (.bool true)], args := [] }
  | _ => none }
def fnDefaultWatchSettingsAreFreshAndAsDocumentedRow : OpenClaim := { program := "qxb6613192a", sum := "320ba7d23c9e298cdd4813002a13aa98c2afd400d2e5d61f6bab6b59cdbb2804", func := "example.com/flapwatch/flapwatch/zzlaws_root_b1.FnDefaultWatchSettingsAreFreshAndAsDocumented", spec := "fnDefaultWatchSettingsAreFreshAndAsDocumented", apart := false }
def FnDefaultWatchSettingsAreFreshAndAsDocumentedSaid : Prop := fnDefaultWatchSettingsAreFreshAndAsDocumentedRow.holds Try.pinned (OpenSpec.ofChange fnDefaultWatchSettingsAreFreshAndAsDocumentedSpec)

/-- ITS FALSE NEIGHBOUR: 'it returns false'. Refute it at one input. -/
def fnDefaultWatchSettingsAreFreshAndAsDocumentedWrong : ChangeSpec := { name := "fnDefaultWatchSettingsAreFreshAndAsDocumented", fn := fun _ => fun
  | [] => { results := [.lit (.bool false)], args := [] }
  | _ => none }
def FnDefaultWatchSettingsAreFreshAndAsDocumentedWrongFalsely : Prop := fnDefaultWatchSettingsAreFreshAndAsDocumentedRow.holds Try.pinned (OpenSpec.ofChange fnDefaultWatchSettingsAreFreshAndAsDocumentedWrong)

end Rows
end Go.Proofs.Qxb6613192a
