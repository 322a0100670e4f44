/-
  No cell of these rows narrows 'for every input' (looked for: loops, veiled, ifaces, maps, wideKeys, modest, calm, conditions, laid).
  DERIVED. THE GIVEN ROWS OF THIS SEAT. 3 by the template 'for every input the law returns true; each argument reads behind the call as it read before'; 0 by the template 'total and deterministic' (their statements: Qxb6605948aTotals.lean).
  GIVEN WITH THE SEED: the statements are not yours to turn. If you find one false, say at which input.
  Laid BY PROGRAM, IN A SANDBOX (cutbox-rows.mjs): the forced cells as the released guide's own fill.sh prints them over the translation 6267e62efa17720f… (all of the seat's roots in one cut). By AI agents, Wed Nov 11 2026. No macro, syntax, notation, axiom, sorry.
-/
import Derived.Test.Qxb6605948aChecked
import GoSem.Claim
import GoSem.ClaimJoined
import GoSem.ClaimMapViews
import Derived.JoinedTies
import Derived.KernelRfl
namespace Go.Proofs.Qxb6605948a
/- THE CELL 'sum', in the pinned program and in every row, IS THE sha256 OF THE DUMP (.gsa) THAT Qxb6605948aProg.lean LOADS. Nothing in Lean hashes anything: it is a label: what it is worth is what the hold of that sum in a sandbox is worth. -/
noncomputable def Try.pinned : Pinned := { name := "qxb6605948a", sum := "6267e62efa17720f1a0cd3bbd28ae8de50ced18547375148912befe005646d1c", checked := Try.checked }
namespace Rows
def none {H : Type} : Left H := { results := [], args := [] }

/-- 'zzlaws_root_b1.FnNewProbesReady': WHATEVER THE INPUT: true; the input reads as it did. -/
def fnNewProbesReadySpec : ChangeSpec := { name := "fnNewProbesReady", fn := fun _ => fun
  | [] => { results := [.lit (.bool true)], args := [] }
  | _ => none }
def fnNewProbesReadyRow : OpenClaim := { program := "qxb6605948a", sum := "6267e62efa17720f1a0cd3bbd28ae8de50ced18547375148912befe005646d1c", func := "example.com/quiesce/quiesce/zzlaws_root_b1.FnNewProbesReady", spec := "fnNewProbesReady", inPlace := ["sync/atomic.LoadUint32"], apart := false }
def FnNewProbesReadySaid : Prop := fnNewProbesReadyRow.holds Try.pinned (OpenSpec.ofChange fnNewProbesReadySpec)

/-- ITS FALSE NEIGHBOUR: 'it returns false'. Refute it at one input. -/
def fnNewProbesReadyWrong : ChangeSpec := { name := "fnNewProbesReady", fn := fun _ => fun
  | [] => { results := [.lit (.bool false)], args := [] }
  | _ => none }
def FnNewProbesReadyWrongFalsely : Prop := fnNewProbesReadyRow.holds Try.pinned (OpenSpec.ofChange fnNewProbesReadyWrong)

/-- 'zzlaws_root_b1.FnNewProbesFreshEach': WHATEVER THE INPUT: true; the input reads as it did. -/
def fnNewProbesFreshEachSpec : ChangeSpec := { name := "fnNewProbesFreshEach", fn := fun _ => fun
  | [] => { results := [.lit (.bool true)], args := [] }
  | _ => none }
def fnNewProbesFreshEachRow : OpenClaim := { program := "qxb6605948a", sum := "6267e62efa17720f1a0cd3bbd28ae8de50ced18547375148912befe005646d1c", func := "example.com/quiesce/quiesce/zzlaws_root_b1.FnNewProbesFreshEach", spec := "fnNewProbesFreshEach", inPlace := ["sync/atomic.StoreUint32", "sync/atomic.LoadUint32"], apart := false }
def FnNewProbesFreshEachSaid : Prop := fnNewProbesFreshEachRow.holds Try.pinned (OpenSpec.ofChange fnNewProbesFreshEachSpec)

/-- ITS FALSE NEIGHBOUR: 'it returns false'. Refute it at one input. -/
def fnNewProbesFreshEachWrong : ChangeSpec := { name := "fnNewProbesFreshEach", fn := fun _ => fun
  | [] => { results := [.lit (.bool false)], args := [] }
  | _ => none }
def FnNewProbesFreshEachWrongFalsely : Prop := fnNewProbesFreshEachRow.holds Try.pinned (OpenSpec.ofChange fnNewProbesFreshEachWrong)

/-- 'zzlaws_root_b1.FnLevelForWarnThresholdSplits': WHATEVER THE INPUT: true; the input reads as it did. -/
def fnLevelForWarnThresholdSplitsSpec : ChangeSpec := { name := "fnLevelForWarnThresholdSplits", fn := fun _ => fun
  | [d] => { results := [.lit (.bool true)], args := [d] }
  | _ => none }
def fnLevelForWarnThresholdSplitsRow : OpenClaim := { program := "qxb6605948a", sum := "6267e62efa17720f1a0cd3bbd28ae8de50ced18547375148912befe005646d1c", func := "example.com/quiesce/quiesce/zzlaws_root_b1.FnLevelForWarnThresholdSplits", spec := "fnLevelForWarnThresholdSplits", apart := false }
def FnLevelForWarnThresholdSplitsSaid : Prop := fnLevelForWarnThresholdSplitsRow.holds Try.pinned (OpenSpec.ofChange fnLevelForWarnThresholdSplitsSpec)

/-- ITS FALSE NEIGHBOUR: 'it returns false'. Refute it at one input. -/
def fnLevelForWarnThresholdSplitsWrong : ChangeSpec := { name := "fnLevelForWarnThresholdSplits", fn := fun _ => fun
  | [d] => { results := [.lit (.bool false)], args := [d] }
  | _ => none }
def FnLevelForWarnThresholdSplitsWrongFalsely : Prop := fnLevelForWarnThresholdSplitsRow.holds Try.pinned (OpenSpec.ofChange fnLevelForWarnThresholdSplitsWrong)

end Rows
end Go.Proofs.Qxb6605948a
