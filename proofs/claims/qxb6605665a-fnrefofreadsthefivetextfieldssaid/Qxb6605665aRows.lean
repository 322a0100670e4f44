/-
  No cell of these rows narrows 'for every input' (looked for: loops, veiled, ifaces, maps, wideKeys, modest, calm, conditions, laid).
  DERIVED. THE GIVEN ROWS OF THIS SEAT. 6 by the template 'for every input the law returns true; each argument reads behind the call as it read before'; 0 by the template 'total and deterministic' (their statements: Qxb6605665aTotals.lean).
  GIVEN WITH THE SEED: the statements are not yours to turn. If you find one false, say at which input.
  Laid BY PROGRAM, IN A SANDBOX (cutbox-rows.mjs): the forced cells as the released guide's own fill.sh prints them over the translation ea6beec8a066c898… (all of the seat's roots in one cut). By AI agents, Wed Nov 11 2026. No macro, syntax, notation, axiom, sorry.
-/
import Derived.Test.Qxb6605665aChecked
import GoSem.Claim
import GoSem.ClaimJoined
import GoSem.ClaimMapViews
import Derived.JoinedTies
import Derived.KernelRfl
namespace Go.Proofs.Qxb6605665a
/- THE CELL 'sum', in the pinned program and in every row, IS THE sha256 OF THE DUMP (.gsa) THAT Qxb6605665aProg.lean LOADS. Nothing in Lean hashes anything: it is a label: what it is worth is what the hold of that sum in a sandbox is worth. -/
noncomputable def Try.pinned : Pinned := { name := "qxb6605665a", sum := "ea6beec8a066c8988c93559b58948940311b3777a1c2525535939f8594e4b86a", checked := Try.checked }
namespace Rows
def none {H : Type} : Left H := { results := [], args := [] }

/-- 'zzlaws_internal_cluster_b1.FnRefOfReadsTheFiveTextFields': WHATEVER THE INPUT: true; the input reads as it did. -/
def fnRefOfReadsTheFiveTextFieldsSpec : ChangeSpec := { name := "fnRefOfReadsTheFiveTextFields", fn := fun _ => fun
  | [d1, d2, d3, d4, d5] => { results := [.lit (.bool true)], args := [d1, d2, d3, d4, d5] }
  | _ => none }
def fnRefOfReadsTheFiveTextFieldsRow : OpenClaim := { program := "qxb6605665a", sum := "ea6beec8a066c8988c93559b58948940311b3777a1c2525535939f8594e4b86a", func := "example.com/moorage/moorage/zzlaws_internal_cluster_b1.FnRefOfReadsTheFiveTextFields", spec := "fnRefOfReadsTheFiveTextFields", unfollowed := true, recurses := true, apart := false }
def FnRefOfReadsTheFiveTextFieldsSaid : Prop := fnRefOfReadsTheFiveTextFieldsRow.holds Try.pinned (OpenSpec.ofChange fnRefOfReadsTheFiveTextFieldsSpec)

/-- ITS FALSE NEIGHBOUR: 'it returns false'. Refute it at one input. -/
def fnRefOfReadsTheFiveTextFieldsWrong : ChangeSpec := { name := "fnRefOfReadsTheFiveTextFields", fn := fun _ => fun
  | [d1, d2, d3, d4, d5] => { results := [.lit (.bool false)], args := [d1, d2, d3, d4, d5] }
  | _ => none }
def FnRefOfReadsTheFiveTextFieldsWrongFalsely : Prop := fnRefOfReadsTheFiveTextFieldsRow.holds Try.pinned (OpenSpec.ofChange fnRefOfReadsTheFiveTextFieldsWrong)

/-- 'zzlaws_internal_cluster_b1.FnRefOfRoundTripsARef': WHATEVER THE INPUT: true; the input reads as it did. -/
def fnRefOfRoundTripsARefSpec : ChangeSpec := { name := "fnRefOfRoundTripsARef", fn := fun _ => fun
  | [d1, d2, d3, d4, d5, d6, d7] => { results := [.lit (.bool true)], args := [d1, d2, d3, d4, d5, d6, d7] }
  | _ => none }
def fnRefOfRoundTripsARefRow : OpenClaim := { program := "qxb6605665a", sum := "ea6beec8a066c8988c93559b58948940311b3777a1c2525535939f8594e4b86a", func := "example.com/moorage/moorage/zzlaws_internal_cluster_b1.FnRefOfRoundTripsARef", spec := "fnRefOfRoundTripsARef", inPlace := ["internal/bytealg.IndexByteString", "internal/bytealg.IndexString"], unfollowed := true, recurses := true, named := ["internal/bytealg.MaxLen"], apart := false }
def FnRefOfRoundTripsARefSaid : Prop := fnRefOfRoundTripsARefRow.holds Try.pinned (OpenSpec.ofChange fnRefOfRoundTripsARefSpec)

/-- ITS FALSE NEIGHBOUR: 'it returns false'. Refute it at one input. -/
def fnRefOfRoundTripsARefWrong : ChangeSpec := { name := "fnRefOfRoundTripsARef", fn := fun _ => fun
  | [d1, d2, d3, d4, d5, d6, d7] => { results := [.lit (.bool false)], args := [d1, d2, d3, d4, d5, d6, d7] }
  | _ => none }
def FnRefOfRoundTripsARefWrongFalsely : Prop := fnRefOfRoundTripsARefRow.holds Try.pinned (OpenSpec.ofChange fnRefOfRoundTripsARefWrong)

/-- 'zzlaws_internal_cluster_b1.FnTakeSetsOrDropsOneField': WHATEVER THE INPUT: true; the input reads as it did. -/
def fnTakeSetsOrDropsOneFieldSpec : ChangeSpec := { name := "fnTakeSetsOrDropsOneField", fn := fun _ => fun
  | [d1, d2, d3] => { results := [.lit (.bool true)], args := [d1, d2, d3] }
  | _ => none }
def fnTakeSetsOrDropsOneFieldRow : OpenClaim := { program := "qxb6605665a", sum := "ea6beec8a066c8988c93559b58948940311b3777a1c2525535939f8594e4b86a", func := "example.com/moorage/moorage/zzlaws_internal_cluster_b1.FnTakeSetsOrDropsOneField", spec := "fnTakeSetsOrDropsOneField", apart := false }
def FnTakeSetsOrDropsOneFieldSaid : Prop := fnTakeSetsOrDropsOneFieldRow.holds Try.pinned (OpenSpec.ofChange fnTakeSetsOrDropsOneFieldSpec)

/-- ITS FALSE NEIGHBOUR: 'it returns false'. Refute it at one input. -/
def fnTakeSetsOrDropsOneFieldWrong : ChangeSpec := { name := "fnTakeSetsOrDropsOneField", fn := fun _ => fun
  | [d1, d2, d3] => { results := [.lit (.bool false)], args := [d1, d2, d3] }
  | _ => none }
def FnTakeSetsOrDropsOneFieldWrongFalsely : Prop := fnTakeSetsOrDropsOneFieldRow.holds Try.pinned (OpenSpec.ofChange fnTakeSetsOrDropsOneFieldWrong)

/-- 'zzlaws_internal_cluster_b1.FnTakeIsUndoneByTakingFromTheOriginal': WHATEVER THE INPUT: true; the input reads as it did. -/
def fnTakeIsUndoneByTakingFromTheOriginalSpec : ChangeSpec := { name := "fnTakeIsUndoneByTakingFromTheOriginal", fn := fun _ => fun
  | [d1, d2, d3] => { results := [.lit (.bool true)], args := [d1, d2, d3] }
  | _ => none }
def fnTakeIsUndoneByTakingFromTheOriginalRow : OpenClaim := { program := "qxb6605665a", sum := "ea6beec8a066c8988c93559b58948940311b3777a1c2525535939f8594e4b86a", func := "example.com/moorage/moorage/zzlaws_internal_cluster_b1.FnTakeIsUndoneByTakingFromTheOriginal", spec := "fnTakeIsUndoneByTakingFromTheOriginal", apart := false }
def FnTakeIsUndoneByTakingFromTheOriginalSaid : Prop := fnTakeIsUndoneByTakingFromTheOriginalRow.holds Try.pinned (OpenSpec.ofChange fnTakeIsUndoneByTakingFromTheOriginalSpec)

/-- ITS FALSE NEIGHBOUR: 'it returns false'. Refute it at one input. -/
def fnTakeIsUndoneByTakingFromTheOriginalWrong : ChangeSpec := { name := "fnTakeIsUndoneByTakingFromTheOriginal", fn := fun _ => fun
  | [d1, d2, d3] => { results := [.lit (.bool false)], args := [d1, d2, d3] }
  | _ => none }
def FnTakeIsUndoneByTakingFromTheOriginalWrongFalsely : Prop := fnTakeIsUndoneByTakingFromTheOriginalRow.holds Try.pinned (OpenSpec.ofChange fnTakeIsUndoneByTakingFromTheOriginalWrong)

/-- 'zzlaws_internal_cluster_b1.FnSameNameIsBlindToUIDAndVersion': WHATEVER THE INPUT: true; the input reads as it did. -/
def fnSameNameIsBlindToUIDAndVersionSpec : ChangeSpec := { name := "fnSameNameIsBlindToUIDAndVersion", fn := fun _ => fun
  | [d1, d2, d3, d4, d5, d6, d7, d8, d9, d10, d11, d12] => { results := [.lit (.bool true)], args := [d1, d2, d3, d4, d5, d6, d7, d8, d9, d10, d11, d12] }
  | _ => none }
def fnSameNameIsBlindToUIDAndVersionRow : OpenClaim := { program := "qxb6605665a", sum := "ea6beec8a066c8988c93559b58948940311b3777a1c2525535939f8594e4b86a", func := "example.com/moorage/moorage/zzlaws_internal_cluster_b1.FnSameNameIsBlindToUIDAndVersion", spec := "fnSameNameIsBlindToUIDAndVersion", inPlace := ["internal/bytealg.IndexByteString", "internal/bytealg.IndexString"], named := ["internal/bytealg.MaxLen"], apart := false }
def FnSameNameIsBlindToUIDAndVersionSaid : Prop := fnSameNameIsBlindToUIDAndVersionRow.holds Try.pinned (OpenSpec.ofChange fnSameNameIsBlindToUIDAndVersionSpec)

/-- ITS FALSE NEIGHBOUR: 'it returns false'. Refute it at one input. -/
def fnSameNameIsBlindToUIDAndVersionWrong : ChangeSpec := { name := "fnSameNameIsBlindToUIDAndVersion", fn := fun _ => fun
  | [d1, d2, d3, d4, d5, d6, d7, d8, d9, d10, d11, d12] => { results := [.lit (.bool false)], args := [d1, d2, d3, d4, d5, d6, d7, d8, d9, d10, d11, d12] }
  | _ => none }
def FnSameNameIsBlindToUIDAndVersionWrongFalsely : Prop := fnSameNameIsBlindToUIDAndVersionRow.holds Try.pinned (OpenSpec.ofChange fnSameNameIsBlindToUIDAndVersionWrong)

/-- 'zzlaws_internal_cluster_b1.FnSameNameTellsApartEachNamingField': WHATEVER THE INPUT: true; the input reads as it did. -/
def fnSameNameTellsApartEachNamingFieldSpec : ChangeSpec := { name := "fnSameNameTellsApartEachNamingField", fn := fun _ => fun
  | [d1, d2, d3, d4, d5, d6] => { results := [.lit (.bool true)], args := [d1, d2, d3, d4, d5, d6] }
  | _ => none }
def fnSameNameTellsApartEachNamingFieldRow : OpenClaim := { program := "qxb6605665a", sum := "ea6beec8a066c8988c93559b58948940311b3777a1c2525535939f8594e4b86a", func := "example.com/moorage/moorage/zzlaws_internal_cluster_b1.FnSameNameTellsApartEachNamingField", spec := "fnSameNameTellsApartEachNamingField", inPlace := ["internal/bytealg.IndexByteString", "internal/bytealg.IndexString"], named := ["internal/bytealg.MaxLen"], apart := false }
def FnSameNameTellsApartEachNamingFieldSaid : Prop := fnSameNameTellsApartEachNamingFieldRow.holds Try.pinned (OpenSpec.ofChange fnSameNameTellsApartEachNamingFieldSpec)

/-- ITS FALSE NEIGHBOUR: 'it returns false'. Refute it at one input. -/
def fnSameNameTellsApartEachNamingFieldWrong : ChangeSpec := { name := "fnSameNameTellsApartEachNamingField", fn := fun _ => fun
  | [d1, d2, d3, d4, d5, d6] => { results := [.lit (.bool false)], args := [d1, d2, d3, d4, d5, d6] }
  | _ => none }
def FnSameNameTellsApartEachNamingFieldWrongFalsely : Prop := fnSameNameTellsApartEachNamingFieldRow.holds Try.pinned (OpenSpec.ofChange fnSameNameTellsApartEachNamingFieldWrong)

end Rows
end Go.Proofs.Qxb6605665a
