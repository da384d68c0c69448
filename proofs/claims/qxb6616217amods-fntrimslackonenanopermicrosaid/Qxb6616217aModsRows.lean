/-
  No cell of these rows narrows 'for every input' (looked for: loops, veiled, ifaces, maps, wideKeys, modest, calm, conditions, laid).
  DERIVED. THE GIVEN ROWS OF THIS SEAT. 3 by the template 'for every input the law returns true; each argument reads behind the call as it read before'; 0 by the template 'total and deterministic' (their statements: Qxb6616217aModsTotals.lean).
  GIVEN WITH THE SEED: the statements are not yours to turn. If you find one false, say at which input.
  Laid BY PROGRAM, IN A SANDBOX (cutbox-rows.mjs): the forced cells as the released guide's own fill.sh prints them over the translation 284f2eb12688d912… (all of the seat's roots in one cut). By AI agents, Wed Nov 11 2026. No macro, syntax, notation, axiom, sorry.
-/
import Derived.Test.Qxb6616217aModsChecked
import GoSem.Claim
import GoSem.ClaimJoined
import GoSem.ClaimMapViews
import Derived.JoinedTies
import Derived.KernelRfl
namespace Go.Proofs.Qxb6616217aMods
/- THE CELL 'sum', in the pinned program and in every row, IS THE sha256 OF THE DUMP (.gsa) THAT Qxb6616217aModsProg.lean LOADS. Nothing in Lean hashes anything: it is a label: what it is worth is what the hold of that sum in a sandbox is worth. -/
noncomputable def Trym.pinned : Pinned := { name := "qxb6616217amods", sum := "284f2eb12688d91287c937b63c90e4aa2a41b3c874d435e16e0cb56dc5e04412", checked := Trym.checked }
namespace Rows
def none {H : Type} : Left H := { results := [], args := [] }

/-- 'zzlaws_server_b1.FnTrimSlackOneNanoPerMicro': WHATEVER THE INPUT: true; the input reads as it did. -/
def fnTrimSlackOneNanoPerMicroSpec : ChangeSpec := { name := "fnTrimSlackOneNanoPerMicro", fn := fun _ => fun
  | [d1, d2] => { results := [.lit (.bool true)], args := [d1, d2] }
  | _ => none }
def fnTrimSlackOneNanoPerMicroRow : OpenClaim := { program := "qxb6616217amods", sum := "284f2eb12688d91287c937b63c90e4aa2a41b3c874d435e16e0cb56dc5e04412", func := "example.com/shardonnay/shardonnay/zzlaws_server_b1.FnTrimSlackOneNanoPerMicro", spec := "fnTrimSlackOneNanoPerMicro", make := .lifted ["publicsums"], apart := false }
def FnTrimSlackOneNanoPerMicroSaid : Prop := fnTrimSlackOneNanoPerMicroRow.holds Trym.pinned (OpenSpec.ofChange fnTrimSlackOneNanoPerMicroSpec)

/-- ITS FALSE NEIGHBOUR: 'it returns false'. Refute it at one input. -/
def fnTrimSlackOneNanoPerMicroWrong : ChangeSpec := { name := "fnTrimSlackOneNanoPerMicro", fn := fun _ => fun
  | [d1, d2] => { results := [.lit (.bool false)], args := [d1, d2] }
  | _ => none }
def FnTrimSlackOneNanoPerMicroWrongFalsely : Prop := fnTrimSlackOneNanoPerMicroRow.holds Trym.pinned (OpenSpec.ofChange fnTrimSlackOneNanoPerMicroWrong)

/-- 'zzlaws_server_b1.FnTrimSlackOrderFloorCeiling': WHATEVER THE INPUT: true; the input reads as it did. -/
def fnTrimSlackOrderFloorCeilingSpec : ChangeSpec := { name := "fnTrimSlackOrderFloorCeiling", fn := fun _ => fun
  | [d1, d2] => { results := [.lit (.bool true)], args := [d1, d2] }
  | _ => none }
def fnTrimSlackOrderFloorCeilingRow : OpenClaim := { program := "qxb6616217amods", sum := "284f2eb12688d91287c937b63c90e4aa2a41b3c874d435e16e0cb56dc5e04412", func := "example.com/shardonnay/shardonnay/zzlaws_server_b1.FnTrimSlackOrderFloorCeiling", spec := "fnTrimSlackOrderFloorCeiling", make := .lifted ["publicsums"], apart := false }
def FnTrimSlackOrderFloorCeilingSaid : Prop := fnTrimSlackOrderFloorCeilingRow.holds Trym.pinned (OpenSpec.ofChange fnTrimSlackOrderFloorCeilingSpec)

/-- ITS FALSE NEIGHBOUR: 'it returns false'. Refute it at one input. -/
def fnTrimSlackOrderFloorCeilingWrong : ChangeSpec := { name := "fnTrimSlackOrderFloorCeiling", fn := fun _ => fun
  | [d1, d2] => { results := [.lit (.bool false)], args := [d1, d2] }
  | _ => none }
def FnTrimSlackOrderFloorCeilingWrongFalsely : Prop := fnTrimSlackOrderFloorCeilingRow.holds Trym.pinned (OpenSpec.ofChange fnTrimSlackOrderFloorCeilingWrong)

/-- 'zzlaws_server_b1.FnShardPageWalkVisitsEachOnce': WHATEVER THE INPUT: true; the input reads as it did. -/
def fnShardPageWalkVisitsEachOnceSpec : ChangeSpec := { name := "fnShardPageWalkVisitsEachOnce", fn := fun _ => fun
  | [d1, d2, d3] => { results := [.lit (.bool true)], args := [d1, d2, d3] }
  | _ => none }
def fnShardPageWalkVisitsEachOnceRow : OpenClaim := { program := "qxb6616217amods", sum := "284f2eb12688d91287c937b63c90e4aa2a41b3c874d435e16e0cb56dc5e04412", func := "example.com/shardonnay/shardonnay/zzlaws_server_b1.FnShardPageWalkVisitsEachOnce", spec := "fnShardPageWalkVisitsEachOnce", unfollowed := true, recurses := true, make := .lifted ["publicsums"], apart := false }
def FnShardPageWalkVisitsEachOnceSaid : Prop := fnShardPageWalkVisitsEachOnceRow.holds Trym.pinned (OpenSpec.ofChange fnShardPageWalkVisitsEachOnceSpec)

/-- ITS FALSE NEIGHBOUR: 'it returns false'. Refute it at one input. -/
def fnShardPageWalkVisitsEachOnceWrong : ChangeSpec := { name := "fnShardPageWalkVisitsEachOnce", fn := fun _ => fun
  | [d1, d2, d3] => { results := [.lit (.bool false)], args := [d1, d2, d3] }
  | _ => none }
def FnShardPageWalkVisitsEachOnceWrongFalsely : Prop := fnShardPageWalkVisitsEachOnceRow.holds Trym.pinned (OpenSpec.ofChange fnShardPageWalkVisitsEachOnceWrong)

end Rows
end Go.Proofs.Qxb6616217aMods
