/-
  No cell of these rows narrows 'for every input' (looked for: loops, veiled, ifaces, maps, wideKeys, modest, calm, conditions, laid).
  DERIVED. THE GIVEN ROWS OF THIS SEAT. 5 by the template 'for every input the law returns true; each argument reads behind the call as it read before'; 0 by the template 'total and deterministic' (their statements: Qxb6608558aTotals.lean).
  GIVEN WITH THE SEED: the statements are not yours to turn. If you find one false, say at which input.
  Laid BY PROGRAM, IN A SANDBOX (cutbox-rows.mjs): the forced cells as the released guide's own fill.sh prints them over the translation 323a57cf8597fd70… (all of the seat's roots in one cut). By AI agents, Wed Nov 11 2026. No macro, syntax, notation, axiom, sorry.
-/
import Derived.Test.Qxb6608558aChecked
import GoSem.Claim
import GoSem.ClaimJoined
import GoSem.ClaimMapViews
import Derived.JoinedTies
import Derived.KernelRfl
namespace Go.Proofs.Qxb6608558a
/- THE CELL 'sum', in the pinned program and in every row, IS THE sha256 OF THE DUMP (.gsa) THAT Qxb6608558aProg.lean LOADS. Nothing in Lean hashes anything: it is a label: what it is worth is what the hold of that sum in a sandbox is worth. -/
noncomputable def Try.pinned : Pinned := { name := "qxb6608558a", sum := "323a57cf8597fd707926f3b03792636826a44ba26fb172dcb21f358c59872039", checked := Try.checked }
namespace Rows
def none {H : Type} : Left H := { results := [], args := [] }

/-- 'zzlaws_internal_store_b1.FnPathSplitsAtAnySlash': WHATEVER THE INPUT: true; the input reads as it did. -/
def fnPathSplitsAtAnySlashSpec : ChangeSpec := { name := "fnPathSplitsAtAnySlash", fn := fun _ => fun
  | [d1, d2, d3] => { results := [.lit (.bool true)], args := [d1, d2, d3] }
  | _ => none }
def fnPathSplitsAtAnySlashRow : OpenClaim := { program := "qxb6608558a", sum := "323a57cf8597fd707926f3b03792636826a44ba26fb172dcb21f358c59872039", func := "example.com/tollmark/tollmark/zzlaws_internal_store_b1.FnPathSplitsAtAnySlash", spec := "fnPathSplitsAtAnySlash", inPlace := ["internal/abi.NoEscape", "internal/bytealg.MakeNoZero", "internal/bytealg.IndexByteString"], apart := false }
def FnPathSplitsAtAnySlashSaid : Prop := fnPathSplitsAtAnySlashRow.holds Try.pinned (OpenSpec.ofChange fnPathSplitsAtAnySlashSpec)

/-- ITS FALSE NEIGHBOUR: 'it returns false'. Refute it at one input. -/
def fnPathSplitsAtAnySlashWrong : ChangeSpec := { name := "fnPathSplitsAtAnySlash", fn := fun _ => fun
  | [d1, d2, d3] => { results := [.lit (.bool false)], args := [d1, d2, d3] }
  | _ => none }
def FnPathSplitsAtAnySlashWrongFalsely : Prop := fnPathSplitsAtAnySlashRow.holds Try.pinned (OpenSpec.ofChange fnPathSplitsAtAnySlashWrong)

/-- 'zzlaws_internal_store_b1.FnPathIsDirPathThenRecordName': WHATEVER THE INPUT: true; the input reads as it did. -/
def fnPathIsDirPathThenRecordNameSpec : ChangeSpec := { name := "fnPathIsDirPathThenRecordName", fn := fun _ => fun
  | [d1, d2] => { results := [.lit (.bool true)], args := [d1, d2] }
  | _ => none }
def fnPathIsDirPathThenRecordNameRow : OpenClaim := { program := "qxb6608558a", sum := "323a57cf8597fd707926f3b03792636826a44ba26fb172dcb21f358c59872039", func := "example.com/tollmark/tollmark/zzlaws_internal_store_b1.FnPathIsDirPathThenRecordName", spec := "fnPathIsDirPathThenRecordName", inPlace := ["internal/abi.NoEscape", "internal/bytealg.MakeNoZero", "internal/bytealg.IndexByteString"], apart := false }
def FnPathIsDirPathThenRecordNameSaid : Prop := fnPathIsDirPathThenRecordNameRow.holds Try.pinned (OpenSpec.ofChange fnPathIsDirPathThenRecordNameSpec)

/-- ITS FALSE NEIGHBOUR: 'it returns false'. Refute it at one input. -/
def fnPathIsDirPathThenRecordNameWrong : ChangeSpec := { name := "fnPathIsDirPathThenRecordName", fn := fun _ => fun
  | [d1, d2] => { results := [.lit (.bool false)], args := [d1, d2] }
  | _ => none }
def FnPathIsDirPathThenRecordNameWrongFalsely : Prop := fnPathIsDirPathThenRecordNameRow.holds Try.pinned (OpenSpec.ofChange fnPathIsDirPathThenRecordNameWrong)

/-- 'zzlaws_internal_store_b1.FnPlaceCompareKindThenInstantThenId': WHATEVER THE INPUT: true; the input reads as it did. -/
def fnPlaceCompareKindThenInstantThenIdSpec : ChangeSpec := { name := "fnPlaceCompareKindThenInstantThenId", fn := fun _ => fun
  | [d1, d2, d3, d4, d5, d6, d7] => { results := [.lit (.bool true)], args := [d1, d2, d3, d4, d5, d6, d7] }
  | _ => none }
def fnPlaceCompareKindThenInstantThenIdRow : OpenClaim := { program := "qxb6608558a", sum := "323a57cf8597fd707926f3b03792636826a44ba26fb172dcb21f358c59872039", func := "example.com/tollmark/tollmark/zzlaws_internal_store_b1.FnPlaceCompareKindThenInstantThenId", spec := "fnPlaceCompareKindThenInstantThenId", inPlace := ["internal/bytealg.abigen_runtime_cmpstring"], apart := false }
def FnPlaceCompareKindThenInstantThenIdSaid : Prop := fnPlaceCompareKindThenInstantThenIdRow.holds Try.pinned (OpenSpec.ofChange fnPlaceCompareKindThenInstantThenIdSpec)

/-- ITS FALSE NEIGHBOUR: 'it returns false'. Refute it at one input. -/
def fnPlaceCompareKindThenInstantThenIdWrong : ChangeSpec := { name := "fnPlaceCompareKindThenInstantThenId", fn := fun _ => fun
  | [d1, d2, d3, d4, d5, d6, d7] => { results := [.lit (.bool false)], args := [d1, d2, d3, d4, d5, d6, d7] }
  | _ => none }
def FnPlaceCompareKindThenInstantThenIdWrongFalsely : Prop := fnPlaceCompareKindThenInstantThenIdRow.holds Try.pinned (OpenSpec.ofChange fnPlaceCompareKindThenInstantThenIdWrong)

/-- 'zzlaws_internal_store_b1.FnAfterComposesAtTheGreater': WHATEVER THE INPUT: true; the input reads as it did. -/
def fnAfterComposesAtTheGreaterSpec : ChangeSpec := { name := "fnAfterComposesAtTheGreater", fn := fun _ => fun
  | [d1, d2, d3, d4, d5, d6, d7] => { results := [.lit (.bool true)], args := [d1, d2, d3, d4, d5, d6, d7] }
  | _ => none }
def fnAfterComposesAtTheGreaterRow : OpenClaim := { program := "qxb6608558a", sum := "323a57cf8597fd707926f3b03792636826a44ba26fb172dcb21f358c59872039", func := "example.com/tollmark/tollmark/zzlaws_internal_store_b1.FnAfterComposesAtTheGreater", spec := "fnAfterComposesAtTheGreater", inPlace := ["internal/bytealg.abigen_runtime_cmpstring"], unfollowed := true, recurses := true, apart := false }
def FnAfterComposesAtTheGreaterSaid : Prop := fnAfterComposesAtTheGreaterRow.holds Try.pinned (OpenSpec.ofChange fnAfterComposesAtTheGreaterSpec)

/-- ITS FALSE NEIGHBOUR: 'it returns false'. Refute it at one input. -/
def fnAfterComposesAtTheGreaterWrong : ChangeSpec := { name := "fnAfterComposesAtTheGreater", fn := fun _ => fun
  | [d1, d2, d3, d4, d5, d6, d7] => { results := [.lit (.bool false)], args := [d1, d2, d3, d4, d5, d6, d7] }
  | _ => none }
def FnAfterComposesAtTheGreaterWrongFalsely : Prop := fnAfterComposesAtTheGreaterRow.holds Try.pinned (OpenSpec.ofChange fnAfterComposesAtTheGreaterWrong)

/-- 'zzlaws_internal_store_b1.FnAfterSkipsThroughItsOwnPlace': WHATEVER THE INPUT: true; the input reads as it did. -/
def fnAfterSkipsThroughItsOwnPlaceSpec : ChangeSpec := { name := "fnAfterSkipsThroughItsOwnPlace", fn := fun _ => fun
  | [d1, d2] => { results := [.lit (.bool true)], args := [d1, d2] }
  | _ => none }
def fnAfterSkipsThroughItsOwnPlaceRow : OpenClaim := { program := "qxb6608558a", sum := "323a57cf8597fd707926f3b03792636826a44ba26fb172dcb21f358c59872039", func := "example.com/tollmark/tollmark/zzlaws_internal_store_b1.FnAfterSkipsThroughItsOwnPlace", spec := "fnAfterSkipsThroughItsOwnPlace", inPlace := ["internal/bytealg.abigen_runtime_cmpstring"], unfollowed := true, recurses := true, apart := false }
def FnAfterSkipsThroughItsOwnPlaceSaid : Prop := fnAfterSkipsThroughItsOwnPlaceRow.holds Try.pinned (OpenSpec.ofChange fnAfterSkipsThroughItsOwnPlaceSpec)

/-- ITS FALSE NEIGHBOUR: 'it returns false'. Refute it at one input. -/
def fnAfterSkipsThroughItsOwnPlaceWrong : ChangeSpec := { name := "fnAfterSkipsThroughItsOwnPlace", fn := fun _ => fun
  | [d1, d2] => { results := [.lit (.bool false)], args := [d1, d2] }
  | _ => none }
def FnAfterSkipsThroughItsOwnPlaceWrongFalsely : Prop := fnAfterSkipsThroughItsOwnPlaceRow.holds Try.pinned (OpenSpec.ofChange fnAfterSkipsThroughItsOwnPlaceWrong)

end Rows
end Go.Proofs.Qxb6608558a
