/-
  No cell of these rows narrows 'for every input' (looked for: loops, veiled, ifaces, maps, wideKeys, modest, calm, conditions, laid).
  DERIVED. THE GIVEN ROWS OF THIS SEAT. 1 by the template 'for every input the law returns true; each argument reads behind the call as it read before'; 0 by the template 'total and deterministic' (their statements: Qxb6614788aModsTotals.lean).
  GIVEN WITH THE SEED: the statements are not yours to turn. If you find one false, say at which input.
  Laid BY PROGRAM, IN A SANDBOX (cutbox-rows.mjs): the forced cells as the released guide's own fill.sh prints them over the translation b69f69663398c143… (all of the seat's roots in one cut). By AI agents, Wed Nov 11 2026. No macro, syntax, notation, axiom, sorry.
-/
import Derived.Test.Qxb6614788aModsChecked
import GoSem.Claim
import GoSem.ClaimJoined
import GoSem.ClaimMapViews
import Derived.JoinedTies
import Derived.KernelRfl
namespace Go.Proofs.Qxb6614788aMods
/- THE CELL 'sum', in the pinned program and in every row, IS THE sha256 OF THE DUMP (.gsa) THAT Qxb6614788aModsProg.lean LOADS. Nothing in Lean hashes anything: it is a label: what it is worth is what the hold of that sum in a sandbox is worth. -/
noncomputable def Trym.pinned : Pinned := { name := "qxb6614788amods", sum := "b69f69663398c143778de237363e35ba070b1496469109ca8a92ae9b902eed32", checked := Trym.checked }
namespace Rows
def none {H : Type} : Left H := { results := [], args := [] }

/-- 'zzlaws_root_b1.FnFilterValidCountByteSweep': WHATEVER THE INPUT: true; the input reads as it did. -/
def fnFilterValidCountByteSweepSpec : ChangeSpec := { name := "fnFilterValidCountByteSweep", fn := fun _ => fun
  | [d] => { results := [.lit (.bool true)], args := [d] }
  | _ => none }
def fnFilterValidCountByteSweepRow : OpenClaim := { program := "qxb6614788amods", sum := "b69f69663398c143778de237363e35ba070b1496469109ca8a92ae9b902eed32", func := "example.com/loadstone/loadstone/zzlaws_root_b1.FnFilterValidCountByteSweep", spec := "fnFilterValidCountByteSweep", make := .lifted ["publicsums"], apart := false }
def FnFilterValidCountByteSweepSaid : Prop := fnFilterValidCountByteSweepRow.holds Trym.pinned (OpenSpec.ofChange fnFilterValidCountByteSweepSpec)

/-- ITS FALSE NEIGHBOUR: 'it returns false'. Refute it at one input. -/
def fnFilterValidCountByteSweepWrong : ChangeSpec := { name := "fnFilterValidCountByteSweep", fn := fun _ => fun
  | [d] => { results := [.lit (.bool false)], args := [d] }
  | _ => none }
def FnFilterValidCountByteSweepWrongFalsely : Prop := fnFilterValidCountByteSweepRow.holds Trym.pinned (OpenSpec.ofChange fnFilterValidCountByteSweepWrong)

end Rows
end Go.Proofs.Qxb6614788aMods
