/-
  No cell of these rows narrows 'for every input' (looked for: loops, veiled, ifaces, maps, wideKeys, modest, calm, conditions, laid).
  DERIVED. THE GIVEN ROWS OF THIS SEAT. 2 by the template 'for every input the law returns true; each argument reads behind the call as it read before'; 0 by the template 'total and deterministic' (their statements: Qxb6608702aTotals.lean).
  GIVEN WITH THE SEED: the statements are not yours to turn. If you find one false, say at which input.
  Laid BY PROGRAM, IN A SANDBOX (cutbox-rows.mjs): the forced cells as the released guide's own fill.sh prints them over the translation fc14071a2ac038aa… (all of the seat's roots in one cut). By AI agents, Wed Nov 11 2026. No macro, syntax, notation, axiom, sorry.
-/
import Derived.Test.Qxb6608702aChecked
import GoSem.Claim
import GoSem.ClaimJoined
import GoSem.ClaimMapViews
import Derived.JoinedTies
import Derived.KernelRfl
namespace Go.Proofs.Qxb6608702a
/- THE CELL 'sum', in the pinned program and in every row, IS THE sha256 OF THE DUMP (.gsa) THAT Qxb6608702aProg.lean LOADS. Nothing in Lean hashes anything: it is a label: what it is worth is what the hold of that sum in a sandbox is worth. -/
noncomputable def Try.pinned : Pinned := { name := "qxb6608702a", sum := "fc14071a2ac038aaadfd4828bb2fa85e44c6a18a51b0f90e69e0ed78e585e620", checked := Try.checked }
namespace Rows
def none {H : Type} : Left H := { results := [], args := [] }

/-- 'zzlaws_internal_jwt_b1.FnSameKeyEd25519IsByteEquality': WHATEVER THE INPUT: true; the input reads as it did. -/
def fnSameKeyEd25519IsByteEqualitySpec : ChangeSpec := { name := "fnSameKeyEd25519IsByteEquality", fn := fun _ => fun
  | [d1, d2] => { results := [.lit (.bool true)], args := [d1, d2] }
  | _ => none }
def fnSameKeyEd25519IsByteEqualityRow : OpenClaim := { program := "qxb6608702a", sum := "fc14071a2ac038aaadfd4828bb2fa85e44c6a18a51b0f90e69e0ed78e585e620", func := "example.com/bearer-to-principal/bearer-to-principal/zzlaws_internal_jwt_b1.FnSameKeyEd25519IsByteEquality", spec := "fnSameKeyEd25519IsByteEquality", unfollowed := true, recurses := true, apart := false }
def FnSameKeyEd25519IsByteEqualitySaid : Prop := fnSameKeyEd25519IsByteEqualityRow.holds Try.pinned (OpenSpec.ofChange fnSameKeyEd25519IsByteEqualitySpec)

/-- ITS FALSE NEIGHBOUR: 'it returns false'. Refute it at one input. -/
def fnSameKeyEd25519IsByteEqualityWrong : ChangeSpec := { name := "fnSameKeyEd25519IsByteEquality", fn := fun _ => fun
  | [d1, d2] => { results := [.lit (.bool false)], args := [d1, d2] }
  | _ => none }
def FnSameKeyEd25519IsByteEqualityWrongFalsely : Prop := fnSameKeyEd25519IsByteEqualityRow.holds Try.pinned (OpenSpec.ofChange fnSameKeyEd25519IsByteEqualityWrong)

/-- 'zzlaws_internal_jwt_b1.FnSameKeyRSAIsValueEquality': WHATEVER THE INPUT: true; the input reads as it did. -/
def fnSameKeyRSAIsValueEqualitySpec : ChangeSpec := { name := "fnSameKeyRSAIsValueEquality", fn := fun _ => fun
  | [d1, d2, d3, d4] => { results := [.lit (.bool true)], args := [d1, d2, d3, d4] }
  | _ => none }
def fnSameKeyRSAIsValueEqualityRow : OpenClaim := { program := "qxb6608702a", sum := "fc14071a2ac038aaadfd4828bb2fa85e44c6a18a51b0f90e69e0ed78e585e620", func := "example.com/bearer-to-principal/bearer-to-principal/zzlaws_internal_jwt_b1.FnSameKeyRSAIsValueEquality", spec := "fnSameKeyRSAIsValueEquality", unfollowed := true, recurses := true, apart := false }
def FnSameKeyRSAIsValueEqualitySaid : Prop := fnSameKeyRSAIsValueEqualityRow.holds Try.pinned (OpenSpec.ofChange fnSameKeyRSAIsValueEqualitySpec)

/-- ITS FALSE NEIGHBOUR: 'it returns false'. Refute it at one input. -/
def fnSameKeyRSAIsValueEqualityWrong : ChangeSpec := { name := "fnSameKeyRSAIsValueEquality", fn := fun _ => fun
  | [d1, d2, d3, d4] => { results := [.lit (.bool false)], args := [d1, d2, d3, d4] }
  | _ => none }
def FnSameKeyRSAIsValueEqualityWrongFalsely : Prop := fnSameKeyRSAIsValueEqualityRow.holds Try.pinned (OpenSpec.ofChange fnSameKeyRSAIsValueEqualityWrong)

end Rows
end Go.Proofs.Qxb6608702a
