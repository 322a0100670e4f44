/-
  No cell of these rows narrows 'for every input' (looked for: loops, veiled, ifaces, maps, wideKeys, modest, calm, conditions, laid).
  DERIVED. THE GIVEN ROWS OF THIS SEAT. 4 by the template 'for every input the law returns true; each argument reads behind the call as it read before'; 0 by the template 'total and deterministic' (their statements: Qxb6605639aTotals.lean).
  GIVEN WITH THE SEED: the statements are not yours to turn. If you find one false, say at which input.
  Laid BY PROGRAM, IN A SANDBOX (cutbox-rows.mjs): the forced cells as the released guide's own fill.sh prints them over the translation f75d1214907afc64… (all of the seat's roots in one cut). By AI agents, Wed Nov 11 2026. No macro, syntax, notation, axiom, sorry.
-/
import Derived.Test.Qxb6605639aChecked
import GoSem.Claim
import GoSem.ClaimJoined
import GoSem.ClaimMapViews
import Derived.JoinedTies
import Derived.KernelRfl
namespace Go.Proofs.Qxb6605639a
/- THE CELL 'sum', in the pinned program and in every row, IS THE sha256 OF THE DUMP (.gsa) THAT Qxb6605639aProg.lean LOADS. Nothing in Lean hashes anything: it is a label: what it is worth is what the hold of that sum in a sandbox is worth. -/
noncomputable def Try.pinned : Pinned := { name := "qxb6605639a", sum := "f75d1214907afc647857e86f19e4307e8684216e630ba652e6ddda48406de8b5", checked := Try.checked }
namespace Rows
def none {H : Type} : Left H := { results := [], args := [] }

/-- 'zzlaws_root_b1.FnSideAnchoredClasses': WHATEVER THE INPUT: true; the input reads as it did. -/
def fnSideAnchoredClassesSpec : ChangeSpec := { name := "fnSideAnchoredClasses", fn := fun _ => fun
  | [d1, d2, d3] => { results := [.lit (.bool true)], args := [d1, d2, d3] }
  | _ => none }
def fnSideAnchoredClassesRow : OpenClaim := { program := "qxb6605639a", sum := "f75d1214907afc647857e86f19e4307e8684216e630ba652e6ddda48406de8b5", func := "example.com/prunewise/prunewise/zzlaws_root_b1.FnSideAnchoredClasses", spec := "fnSideAnchoredClasses", plainKeys := false, apart := false }
def FnSideAnchoredClassesSaid : Prop := fnSideAnchoredClassesRow.holds Try.pinned (OpenSpec.ofChange fnSideAnchoredClassesSpec)

/-- ITS FALSE NEIGHBOUR: 'it returns false'. Refute it at one input. -/
def fnSideAnchoredClassesWrong : ChangeSpec := { name := "fnSideAnchoredClasses", fn := fun _ => fun
  | [d1, d2, d3] => { results := [.lit (.bool false)], args := [d1, d2, d3] }
  | _ => none }
def FnSideAnchoredClassesWrongFalsely : Prop := fnSideAnchoredClassesRow.holds Try.pinned (OpenSpec.ofChange fnSideAnchoredClassesWrong)

/-- 'zzlaws_root_b1.FnSideMirrorsOnSwapAndIgnoresShift': WHATEVER THE INPUT: true; the input reads as it did. -/
def fnSideMirrorsOnSwapAndIgnoresShiftSpec : ChangeSpec := { name := "fnSideMirrorsOnSwapAndIgnoresShift", fn := fun _ => fun
  | [d1, d2, d3, d4] => { results := [.lit (.bool true)], args := [d1, d2, d3, d4] }
  | _ => none }
def fnSideMirrorsOnSwapAndIgnoresShiftRow : OpenClaim := { program := "qxb6605639a", sum := "f75d1214907afc647857e86f19e4307e8684216e630ba652e6ddda48406de8b5", func := "example.com/prunewise/prunewise/zzlaws_root_b1.FnSideMirrorsOnSwapAndIgnoresShift", spec := "fnSideMirrorsOnSwapAndIgnoresShift", plainKeys := false, apart := false }
def FnSideMirrorsOnSwapAndIgnoresShiftSaid : Prop := fnSideMirrorsOnSwapAndIgnoresShiftRow.holds Try.pinned (OpenSpec.ofChange fnSideMirrorsOnSwapAndIgnoresShiftSpec)

/-- ITS FALSE NEIGHBOUR: 'it returns false'. Refute it at one input. -/
def fnSideMirrorsOnSwapAndIgnoresShiftWrong : ChangeSpec := { name := "fnSideMirrorsOnSwapAndIgnoresShift", fn := fun _ => fun
  | [d1, d2, d3, d4] => { results := [.lit (.bool false)], args := [d1, d2, d3, d4] }
  | _ => none }
def FnSideMirrorsOnSwapAndIgnoresShiftWrongFalsely : Prop := fnSideMirrorsOnSwapAndIgnoresShiftRow.holds Try.pinned (OpenSpec.ofChange fnSideMirrorsOnSwapAndIgnoresShiftWrong)

/-- 'zzlaws_root_b1.FnNextFindsFirstFreeFromHead': WHATEVER THE INPUT: true; the input reads as it did. -/
def fnNextFindsFirstFreeFromHeadSpec : ChangeSpec := { name := "fnNextFindsFirstFreeFromHead", fn := fun _ => fun
  | [d1, d2, d3, d4, d5] => { results := [.lit (.bool true)], args := [d1, d2, d3, d4, d5] }
  | _ => none }
def fnNextFindsFirstFreeFromHeadRow : OpenClaim := { program := "qxb6605639a", sum := "f75d1214907afc647857e86f19e4307e8684216e630ba652e6ddda48406de8b5", func := "example.com/prunewise/prunewise/zzlaws_root_b1.FnNextFindsFirstFreeFromHead", spec := "fnNextFindsFirstFreeFromHead", plainKeys := false, apart := false }
def FnNextFindsFirstFreeFromHeadSaid : Prop := fnNextFindsFirstFreeFromHeadRow.holds Try.pinned (OpenSpec.ofChange fnNextFindsFirstFreeFromHeadSpec)

/-- ITS FALSE NEIGHBOUR: 'it returns false'. Refute it at one input. -/
def fnNextFindsFirstFreeFromHeadWrong : ChangeSpec := { name := "fnNextFindsFirstFreeFromHead", fn := fun _ => fun
  | [d1, d2, d3, d4, d5] => { results := [.lit (.bool false)], args := [d1, d2, d3, d4, d5] }
  | _ => none }
def FnNextFindsFirstFreeFromHeadWrongFalsely : Prop := fnNextFindsFirstFreeFromHeadRow.holds Try.pinned (OpenSpec.ofChange fnNextFindsFirstFreeFromHeadWrong)

/-- 'zzlaws_root_b1.FnNextCachedHeadAgreesWithFreshScan': WHATEVER THE INPUT: true; the input reads as it did. -/
def fnNextCachedHeadAgreesWithFreshScanSpec : ChangeSpec := { name := "fnNextCachedHeadAgreesWithFreshScan", fn := fun _ => fun
  | [d1, d2, d3, d4] => { results := [.lit (.bool true)], args := [d1, d2, d3, d4] }
  | _ => none }
def fnNextCachedHeadAgreesWithFreshScanRow : OpenClaim := { program := "qxb6605639a", sum := "f75d1214907afc647857e86f19e4307e8684216e630ba652e6ddda48406de8b5", func := "example.com/prunewise/prunewise/zzlaws_root_b1.FnNextCachedHeadAgreesWithFreshScan", spec := "fnNextCachedHeadAgreesWithFreshScan", plainKeys := false, apart := false }
def FnNextCachedHeadAgreesWithFreshScanSaid : Prop := fnNextCachedHeadAgreesWithFreshScanRow.holds Try.pinned (OpenSpec.ofChange fnNextCachedHeadAgreesWithFreshScanSpec)

/-- ITS FALSE NEIGHBOUR: 'it returns false'. Refute it at one input. -/
def fnNextCachedHeadAgreesWithFreshScanWrong : ChangeSpec := { name := "fnNextCachedHeadAgreesWithFreshScan", fn := fun _ => fun
  | [d1, d2, d3, d4] => { results := [.lit (.bool false)], args := [d1, d2, d3, d4] }
  | _ => none }
def FnNextCachedHeadAgreesWithFreshScanWrongFalsely : Prop := fnNextCachedHeadAgreesWithFreshScanRow.holds Try.pinned (OpenSpec.ofChange fnNextCachedHeadAgreesWithFreshScanWrong)

end Rows
end Go.Proofs.Qxb6605639a
