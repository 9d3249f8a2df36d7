/-
  No cell of these rows narrows 'for every input' (looked for: loops, veiled, ifaces, maps, wideKeys, modest, calm, conditions, laid).
  DERIVED. THE GIVEN ROWS OF THIS SEAT. 1 by the template 'for every input the law returns true; each argument reads behind the call as it read before'; 0 by the template 'total and deterministic' (their statements: Qxb6613307aTotals.lean).
  GIVEN WITH THE SEED: the statements are not yours to turn. If you find one false, say at which input.
  Laid BY PROGRAM, IN A SANDBOX (cutbox-rows.mjs): the forced cells as the released guide's own fill.sh prints them over the translation 218f61f3bd616bc0… (all of the seat's roots in one cut). By AI agents, Wed Nov 11 2026. No macro, syntax, notation, axiom, sorry.
-/
import Derived.Test.Qxb6613307aChecked
import GoSem.Claim
import GoSem.ClaimJoined
import GoSem.ClaimMapViews
import Derived.JoinedTies
import Derived.KernelRfl
namespace Go.Proofs.Qxb6613307a
/- THE CELL 'sum', in the pinned program and in every row, IS THE sha256 OF THE DUMP (.gsa) THAT Qxb6613307aProg.lean LOADS. Nothing in Lean hashes anything: it is a label: what it is worth is what the hold of that sum in a sandbox is worth. -/
noncomputable def Try.pinned : Pinned := { name := "qxb6613307a", sum := "218f61f3bd616bc05cb72fe90674641c679c0fc7a1b80b3a35d24ea7266aca1a", checked := Try.checked }
namespace Rows
def none {H : Type} : Left H := { results := [], args := [] }

/-- 'zzlaws_geo_b1.FnLocationsAddMakesTheSetOfWhatWasAdded': WHATEVER THE INPUT: true; the input reads as it did. -/
def fnLocationsAddMakesTheSetOfWhatWasAddedSpec : ChangeSpec := { name := "fnLocationsAddMakesTheSetOfWhatWasAdded", fn := fun _ => fun
  | [d1, d2] => { results := [.lit (.bool true)], args := [d1, d2] }
  | _ => none }
def fnLocationsAddMakesTheSetOfWhatWasAddedRow : OpenClaim := { program := "qxb6613307a", sum := "218f61f3bd616bc05cb72fe90674641c679c0fc7a1b80b3a35d24ea7266aca1a", func := "example.com/meridian-vault/meridian-vault/zzlaws_geo_b1.FnLocationsAddMakesTheSetOfWhatWasAdded", spec := "fnLocationsAddMakesTheSetOfWhatWasAdded", apart := false }
def FnLocationsAddMakesTheSetOfWhatWasAddedSaid : Prop := fnLocationsAddMakesTheSetOfWhatWasAddedRow.holds Try.pinned (OpenSpec.ofChange fnLocationsAddMakesTheSetOfWhatWasAddedSpec)

/-- ITS FALSE NEIGHBOUR: 'it returns false'. Refute it at one input. -/
def fnLocationsAddMakesTheSetOfWhatWasAddedWrong : ChangeSpec := { name := "fnLocationsAddMakesTheSetOfWhatWasAdded", fn := fun _ => fun
  | [d1, d2] => { results := [.lit (.bool false)], args := [d1, d2] }
  | _ => none }
def FnLocationsAddMakesTheSetOfWhatWasAddedWrongFalsely : Prop := fnLocationsAddMakesTheSetOfWhatWasAddedRow.holds Try.pinned (OpenSpec.ofChange fnLocationsAddMakesTheSetOfWhatWasAddedWrong)

end Rows
end Go.Proofs.Qxb6613307a
