/-
  No cell of these rows narrows 'for every input' (looked for: loops, veiled, ifaces, maps, wideKeys, modest, calm, conditions, laid).
  DERIVED. THE GIVEN ROWS OF THIS SEAT. 1 by the template 'for every input the law returns true; each argument reads behind the call as it read before'; 0 by the template 'total and deterministic' (their statements: Qxb6615061aModsTotals.lean).
  GIVEN WITH THE SEED: the statements are not yours to turn. If you find one false, say at which input.
  Laid BY PROGRAM, IN A SANDBOX (cutbox-rows.mjs): the forced cells as the released guide's own fill.sh prints them over the translation 1d1f29ea3bdd88c2… (all of the seat's roots in one cut). By AI agents, Wed Nov 11 2026. No macro, syntax, notation, axiom, sorry.
-/
import Derived.Test.Qxb6615061aModsChecked
import GoSem.Claim
import GoSem.ClaimJoined
import GoSem.ClaimMapViews
import Derived.JoinedTies
import Derived.KernelRfl
namespace Go.Proofs.Qxb6615061aMods
/- THE CELL 'sum', in the pinned program and in every row, IS THE sha256 OF THE DUMP (.gsa) THAT Qxb6615061aModsProg.lean LOADS. Nothing in Lean hashes anything: it is a label: what it is worth is what the hold of that sum in a sandbox is worth. -/
noncomputable def Trym.pinned : Pinned := { name := "qxb6615061amods", sum := "1d1f29ea3bdd88c26d0b3e772be8bf74fc49806b17bd8768c373dfbfe0d49da5", checked := Trym.checked }
namespace Rows
def none {H : Type} : Left H := { results := [], args := [] }

/-- 'zzlaws_pkg_action_b1.FnIsOSTakesOnlyOSName': WHATEVER THE INPUT: true; the input reads as it did. -/
def fnIsOSTakesOnlyOSNameSpec : ChangeSpec := { name := "fnIsOSTakesOnlyOSName", fn := fun _ => fun
  | [d1, d2] => { results := [.lit (.bool true)], args := [d1, d2] }
  | _ => none }
def fnIsOSTakesOnlyOSNameRow : OpenClaim := { program := "qxb6615061amods", sum := "1d1f29ea3bdd88c26d0b3e772be8bf74fc49806b17bd8768c373dfbfe0d49da5", func := "example.com/tendril/tendril/zzlaws_pkg_action_b1.FnIsOSTakesOnlyOSName", spec := "fnIsOSTakesOnlyOSName", make := .lifted ["publicsums"], apart := false }
def FnIsOSTakesOnlyOSNameSaid : Prop := fnIsOSTakesOnlyOSNameRow.holds Trym.pinned (OpenSpec.ofChange fnIsOSTakesOnlyOSNameSpec)

/-- ITS FALSE NEIGHBOUR: 'it returns false'. Refute it at one input. -/
def fnIsOSTakesOnlyOSNameWrong : ChangeSpec := { name := "fnIsOSTakesOnlyOSName", fn := fun _ => fun
  | [d1, d2] => { results := [.lit (.bool false)], args := [d1, d2] }
  | _ => none }
def FnIsOSTakesOnlyOSNameWrongFalsely : Prop := fnIsOSTakesOnlyOSNameRow.holds Trym.pinned (OpenSpec.ofChange fnIsOSTakesOnlyOSNameWrong)

end Rows
end Go.Proofs.Qxb6615061aMods
