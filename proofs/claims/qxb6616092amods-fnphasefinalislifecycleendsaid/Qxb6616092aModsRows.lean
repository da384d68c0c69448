/-
  No cell of these rows narrows 'for every input' (looked for: loops, veiled, ifaces, maps, wideKeys, modest, calm, conditions, laid).
  DERIVED. THE GIVEN ROWS OF THIS SEAT. 7 by the template 'for every input the law returns true; each argument reads behind the call as it read before'; 0 by the template 'total and deterministic' (their statements: Qxb6616092aModsTotals.lean).
  GIVEN WITH THE SEED: the statements are not yours to turn. If you find one false, say at which input.
  Laid BY PROGRAM, IN A SANDBOX (cutbox-rows.mjs): the forced cells as the released guide's own fill.sh prints them over the translation c62902dbc3f7a5c1… (all of the seat's roots in one cut). By AI agents, Wed Nov 11 2026. No macro, syntax, notation, axiom, sorry.
-/
import Derived.Test.Qxb6616092aModsChecked
import GoSem.Claim
import GoSem.ClaimJoined
import GoSem.ClaimMapViews
import Derived.JoinedTies
import Derived.KernelRfl
namespace Go.Proofs.Qxb6616092aMods
/- THE CELL 'sum', in the pinned program and in every row, IS THE sha256 OF THE DUMP (.gsa) THAT Qxb6616092aModsProg.lean LOADS. Nothing in Lean hashes anything: it is a label: what it is worth is what the hold of that sum in a sandbox is worth. -/
noncomputable def Trym.pinned : Pinned := { name := "qxb6616092amods", sum := "c62902dbc3f7a5c18366f4131f7b8c9545cde982a286c61539c733f6769dab79", checked := Trym.checked }
namespace Rows
def none {H : Type} : Left H := { results := [], args := [] }

/-- 'zzlaws_internal_api_v1alpha1_b1.FnPhaseFinalIsLifecycleEnd': WHATEVER THE INPUT: true; the input reads as it did. -/
def fnPhaseFinalIsLifecycleEndSpec : ChangeSpec := { name := "fnPhaseFinalIsLifecycleEnd", fn := fun _ => fun
  | [d] => { results := [.lit (.bool true)], args := [d] }
  | _ => none }
def fnPhaseFinalIsLifecycleEndRow : OpenClaim := { program := "qxb6616092amods", sum := "c62902dbc3f7a5c18366f4131f7b8c9545cde982a286c61539c733f6769dab79", func := "example.com/carrack/carrack/zzlaws_internal_api_v1alpha1_b1.FnPhaseFinalIsLifecycleEnd", spec := "fnPhaseFinalIsLifecycleEnd", make := .lifted ["publicsums"], apart := false }
def FnPhaseFinalIsLifecycleEndSaid : Prop := fnPhaseFinalIsLifecycleEndRow.holds Trym.pinned (OpenSpec.ofChange fnPhaseFinalIsLifecycleEndSpec)

/-- ITS FALSE NEIGHBOUR: 'it returns false'. Refute it at one input. -/
def fnPhaseFinalIsLifecycleEndWrong : ChangeSpec := { name := "fnPhaseFinalIsLifecycleEnd", fn := fun _ => fun
  | [d] => { results := [.lit (.bool false)], args := [d] }
  | _ => none }
def FnPhaseFinalIsLifecycleEndWrongFalsely : Prop := fnPhaseFinalIsLifecycleEndRow.holds Trym.pinned (OpenSpec.ofChange fnPhaseFinalIsLifecycleEndWrong)

/-- 'zzlaws_internal_api_v1alpha1_b1.FnCSISnapshotSpecCopyChain': WHATEVER THE INPUT: true; the input reads as it did. -/
def fnCSISnapshotSpecCopyChainSpec : ChangeSpec := { name := "fnCSISnapshotSpecCopyChain", fn := fun _ => fun
  | [d1, d2, d3, d4, d5, d6] => { results := [.lit (.bool true)], args := [d1, d2, d3, d4, d5, d6] }
  | _ => none }
def fnCSISnapshotSpecCopyChainRow : OpenClaim := { program := "qxb6616092amods", sum := "c62902dbc3f7a5c18366f4131f7b8c9545cde982a286c61539c733f6769dab79", func := "example.com/carrack/carrack/zzlaws_internal_api_v1alpha1_b1.FnCSISnapshotSpecCopyChain", spec := "fnCSISnapshotSpecCopyChain", make := .lifted ["publicsums"], apart := false }
def FnCSISnapshotSpecCopyChainSaid : Prop := fnCSISnapshotSpecCopyChainRow.holds Trym.pinned (OpenSpec.ofChange fnCSISnapshotSpecCopyChainSpec)

/-- ITS FALSE NEIGHBOUR: 'it returns false'. Refute it at one input. -/
def fnCSISnapshotSpecCopyChainWrong : ChangeSpec := { name := "fnCSISnapshotSpecCopyChain", fn := fun _ => fun
  | [d1, d2, d3, d4, d5, d6] => { results := [.lit (.bool false)], args := [d1, d2, d3, d4, d5, d6] }
  | _ => none }
def FnCSISnapshotSpecCopyChainWrongFalsely : Prop := fnCSISnapshotSpecCopyChainRow.holds Trym.pinned (OpenSpec.ofChange fnCSISnapshotSpecCopyChainWrong)

/-- 'zzlaws_internal_api_v1alpha1_b1.FnCSISnapshotSpecCopyOverwrites': WHATEVER THE INPUT: true; the input reads as it did. -/
def fnCSISnapshotSpecCopyOverwritesSpec : ChangeSpec := { name := "fnCSISnapshotSpecCopyOverwrites", fn := fun _ => fun
  | [d1, d2, d3, d4, d5, d6] => { results := [.lit (.bool true)], args := [d1, d2, d3, d4, d5, d6] }
  | _ => none }
def fnCSISnapshotSpecCopyOverwritesRow : OpenClaim := { program := "qxb6616092amods", sum := "c62902dbc3f7a5c18366f4131f7b8c9545cde982a286c61539c733f6769dab79", func := "example.com/carrack/carrack/zzlaws_internal_api_v1alpha1_b1.FnCSISnapshotSpecCopyOverwrites", spec := "fnCSISnapshotSpecCopyOverwrites", make := .lifted ["publicsums"], apart := false }
def FnCSISnapshotSpecCopyOverwritesSaid : Prop := fnCSISnapshotSpecCopyOverwritesRow.holds Trym.pinned (OpenSpec.ofChange fnCSISnapshotSpecCopyOverwritesSpec)

/-- ITS FALSE NEIGHBOUR: 'it returns false'. Refute it at one input. -/
def fnCSISnapshotSpecCopyOverwritesWrong : ChangeSpec := { name := "fnCSISnapshotSpecCopyOverwrites", fn := fun _ => fun
  | [d1, d2, d3, d4, d5, d6] => { results := [.lit (.bool false)], args := [d1, d2, d3, d4, d5, d6] }
  | _ => none }
def FnCSISnapshotSpecCopyOverwritesWrongFalsely : Prop := fnCSISnapshotSpecCopyOverwritesRow.holds Trym.pinned (OpenSpec.ofChange fnCSISnapshotSpecCopyOverwritesWrong)

/-- 'zzlaws_internal_api_v1alpha1_b1.FnProgressCopyChain': WHATEVER THE INPUT: true; the input reads as it did. -/
def fnProgressCopyChainSpec : ChangeSpec := { name := "fnProgressCopyChain", fn := fun _ => fun
  | [d1, d2, d3, d4] => { results := [.lit (.bool true)], args := [d1, d2, d3, d4] }
  | _ => none }
def fnProgressCopyChainRow : OpenClaim := { program := "qxb6616092amods", sum := "c62902dbc3f7a5c18366f4131f7b8c9545cde982a286c61539c733f6769dab79", func := "example.com/carrack/carrack/zzlaws_internal_api_v1alpha1_b1.FnProgressCopyChain", spec := "fnProgressCopyChain", make := .lifted ["publicsums"], apart := false }
def FnProgressCopyChainSaid : Prop := fnProgressCopyChainRow.holds Trym.pinned (OpenSpec.ofChange fnProgressCopyChainSpec)

/-- ITS FALSE NEIGHBOUR: 'it returns false'. Refute it at one input. -/
def fnProgressCopyChainWrong : ChangeSpec := { name := "fnProgressCopyChain", fn := fun _ => fun
  | [d1, d2, d3, d4] => { results := [.lit (.bool false)], args := [d1, d2, d3, d4] }
  | _ => none }
def FnProgressCopyChainWrongFalsely : Prop := fnProgressCopyChainRow.holds Trym.pinned (OpenSpec.ofChange fnProgressCopyChainWrong)

/-- 'zzlaws_internal_api_v1alpha1_b1.FnProgressCopyOverwritesAndStaysFrozen': WHATEVER THE INPUT: true; the input reads as it did. -/
def fnProgressCopyOverwritesAndStaysFrozenSpec : ChangeSpec := { name := "fnProgressCopyOverwritesAndStaysFrozen", fn := fun _ => fun
  | [d1, d2, d3, d4, d5] => { results := [.lit (.bool true)], args := [d1, d2, d3, d4, d5] }
  | _ => none }
def fnProgressCopyOverwritesAndStaysFrozenRow : OpenClaim := { program := "qxb6616092amods", sum := "c62902dbc3f7a5c18366f4131f7b8c9545cde982a286c61539c733f6769dab79", func := "example.com/carrack/carrack/zzlaws_internal_api_v1alpha1_b1.FnProgressCopyOverwritesAndStaysFrozen", spec := "fnProgressCopyOverwritesAndStaysFrozen", make := .lifted ["publicsums"], apart := false }
def FnProgressCopyOverwritesAndStaysFrozenSaid : Prop := fnProgressCopyOverwritesAndStaysFrozenRow.holds Trym.pinned (OpenSpec.ofChange fnProgressCopyOverwritesAndStaysFrozenSpec)

/-- ITS FALSE NEIGHBOUR: 'it returns false'. Refute it at one input. -/
def fnProgressCopyOverwritesAndStaysFrozenWrong : ChangeSpec := { name := "fnProgressCopyOverwritesAndStaysFrozen", fn := fun _ => fun
  | [d1, d2, d3, d4, d5] => { results := [.lit (.bool false)], args := [d1, d2, d3, d4, d5] }
  | _ => none }
def FnProgressCopyOverwritesAndStaysFrozenWrongFalsely : Prop := fnProgressCopyOverwritesAndStaysFrozenRow.holds Trym.pinned (OpenSpec.ofChange fnProgressCopyOverwritesAndStaysFrozenWrong)

/-- 'zzlaws_internal_api_v1alpha1_b1.FnTargetVolumeDeepCopyIsFreshAndEqual': WHATEVER THE INPUT: true; the input reads as it did. -/
def fnTargetVolumeDeepCopyIsFreshAndEqualSpec : ChangeSpec := { name := "fnTargetVolumeDeepCopyIsFreshAndEqual", fn := fun _ => fun
  | [d1, d2, d3] => { results := [.lit (.bool true)], args := [d1, d2, d3] }
  | _ => none }
def fnTargetVolumeDeepCopyIsFreshAndEqualRow : OpenClaim := { program := "qxb6616092amods", sum := "c62902dbc3f7a5c18366f4131f7b8c9545cde982a286c61539c733f6769dab79", func := "example.com/carrack/carrack/zzlaws_internal_api_v1alpha1_b1.FnTargetVolumeDeepCopyIsFreshAndEqual", spec := "fnTargetVolumeDeepCopyIsFreshAndEqual", make := .lifted ["publicsums"], apart := false }
def FnTargetVolumeDeepCopyIsFreshAndEqualSaid : Prop := fnTargetVolumeDeepCopyIsFreshAndEqualRow.holds Trym.pinned (OpenSpec.ofChange fnTargetVolumeDeepCopyIsFreshAndEqualSpec)

/-- ITS FALSE NEIGHBOUR: 'it returns false'. Refute it at one input. -/
def fnTargetVolumeDeepCopyIsFreshAndEqualWrong : ChangeSpec := { name := "fnTargetVolumeDeepCopyIsFreshAndEqual", fn := fun _ => fun
  | [d1, d2, d3] => { results := [.lit (.bool false)], args := [d1, d2, d3] }
  | _ => none }
def FnTargetVolumeDeepCopyIsFreshAndEqualWrongFalsely : Prop := fnTargetVolumeDeepCopyIsFreshAndEqualRow.holds Trym.pinned (OpenSpec.ofChange fnTargetVolumeDeepCopyIsFreshAndEqualWrong)

/-- 'zzlaws_internal_api_v1alpha1_b1.FnTargetVolumeDeepCopyAgreesWithDeepCopyInto': WHATEVER THE INPUT: true; the input reads as it did. -/
def fnTargetVolumeDeepCopyAgreesWithDeepCopyIntoSpec : ChangeSpec := { name := "fnTargetVolumeDeepCopyAgreesWithDeepCopyInto", fn := fun _ => fun
  | [d1, d2, d3, d4] => { results := [.lit (.bool true)], args := [d1, d2, d3, d4] }
  | _ => none }
def fnTargetVolumeDeepCopyAgreesWithDeepCopyIntoRow : OpenClaim := { program := "qxb6616092amods", sum := "c62902dbc3f7a5c18366f4131f7b8c9545cde982a286c61539c733f6769dab79", func := "example.com/carrack/carrack/zzlaws_internal_api_v1alpha1_b1.FnTargetVolumeDeepCopyAgreesWithDeepCopyInto", spec := "fnTargetVolumeDeepCopyAgreesWithDeepCopyInto", make := .lifted ["publicsums"], apart := false }
def FnTargetVolumeDeepCopyAgreesWithDeepCopyIntoSaid : Prop := fnTargetVolumeDeepCopyAgreesWithDeepCopyIntoRow.holds Trym.pinned (OpenSpec.ofChange fnTargetVolumeDeepCopyAgreesWithDeepCopyIntoSpec)

/-- ITS FALSE NEIGHBOUR: 'it returns false'. Refute it at one input. -/
def fnTargetVolumeDeepCopyAgreesWithDeepCopyIntoWrong : ChangeSpec := { name := "fnTargetVolumeDeepCopyAgreesWithDeepCopyInto", fn := fun _ => fun
  | [d1, d2, d3, d4] => { results := [.lit (.bool false)], args := [d1, d2, d3, d4] }
  | _ => none }
def FnTargetVolumeDeepCopyAgreesWithDeepCopyIntoWrongFalsely : Prop := fnTargetVolumeDeepCopyAgreesWithDeepCopyIntoRow.holds Trym.pinned (OpenSpec.ofChange fnTargetVolumeDeepCopyAgreesWithDeepCopyIntoWrong)

end Rows
end Go.Proofs.Qxb6616092aMods
