/-
  No cell of these rows narrows 'for every input' (looked for: loops, veiled, ifaces, maps, wideKeys, modest, calm, conditions, laid).
  DERIVED. THE GIVEN ROWS OF THIS SEAT. 2 by the template 'for every input the law returns true; each argument reads behind the call as it read before'; 0 by the template 'total and deterministic' (their statements: Qxb6608777aTotals.lean).
  GIVEN WITH THE SEED: the statements are not yours to turn. If you find one false, say at which input.
  Laid BY PROGRAM, IN A SANDBOX (cutbox-rows.mjs): the forced cells as the released guide's own fill.sh prints them over the translation 7c9d19a1072ba4b0… (all of the seat's roots in one cut). By AI agents, Wed Nov 11 2026. No macro, syntax, notation, axiom, sorry.
-/
import Derived.Test.Qxb6608777aChecked
import GoSem.Claim
import GoSem.ClaimJoined
import GoSem.ClaimMapViews
import Derived.JoinedTies
import Derived.KernelRfl
namespace Go.Proofs.Qxb6608777a
/- THE CELL 'sum', in the pinned program and in every row, IS THE sha256 OF THE DUMP (.gsa) THAT Qxb6608777aProg.lean LOADS. Nothing in Lean hashes anything: it is a label: what it is worth is what the hold of that sum in a sandbox is worth. -/
noncomputable def Try.pinned : Pinned := { name := "qxb6608777a", sum := "7c9d19a1072ba4b0e3008d0f3aefbc7bf78bd69a8a5fed60b9cac54334918ced", checked := Try.checked }
namespace Rows
def none {H : Type} : Left H := { results := [], args := [] }

/-- 'zzlaws_root_b1.FnBitSetAddCountsDistinctInAnyOrder': WHATEVER THE INPUT: true; the input reads as it did. -/
def fnBitSetAddCountsDistinctInAnyOrderSpec : ChangeSpec := { name := "fnBitSetAddCountsDistinctInAnyOrder", fn := fun _ => fun
  | [d1, d2] => { results := [.lit (.bool true)], args := [d1, d2] }
  | _ => none }
def fnBitSetAddCountsDistinctInAnyOrderRow : OpenClaim := { program := "qxb6608777a", sum := "7c9d19a1072ba4b0e3008d0f3aefbc7bf78bd69a8a5fed60b9cac54334918ced", func := "example.com/synod/synod/zzlaws_root_b1.FnBitSetAddCountsDistinctInAnyOrder", spec := "fnBitSetAddCountsDistinctInAnyOrder", apart := false }
def FnBitSetAddCountsDistinctInAnyOrderSaid : Prop := fnBitSetAddCountsDistinctInAnyOrderRow.holds Try.pinned (OpenSpec.ofChange fnBitSetAddCountsDistinctInAnyOrderSpec)

/-- ITS FALSE NEIGHBOUR: 'it returns false'. Refute it at one input. -/
def fnBitSetAddCountsDistinctInAnyOrderWrong : ChangeSpec := { name := "fnBitSetAddCountsDistinctInAnyOrder", fn := fun _ => fun
  | [d1, d2] => { results := [.lit (.bool false)], args := [d1, d2] }
  | _ => none }
def FnBitSetAddCountsDistinctInAnyOrderWrongFalsely : Prop := fnBitSetAddCountsDistinctInAnyOrderRow.holds Try.pinned (OpenSpec.ofChange fnBitSetAddCountsDistinctInAnyOrderWrong)

/-- 'zzlaws_root_b1.FnBitSetAddThenHasIsMembership': WHATEVER THE INPUT: true; the input reads as it did. -/
def fnBitSetAddThenHasIsMembershipSpec : ChangeSpec := { name := "fnBitSetAddThenHasIsMembership", fn := fun _ => fun
  | [d1, d2] => { results := [.lit (.bool true)], args := [d1, d2] }
  | _ => none }
def fnBitSetAddThenHasIsMembershipRow : OpenClaim := { program := "qxb6608777a", sum := "7c9d19a1072ba4b0e3008d0f3aefbc7bf78bd69a8a5fed60b9cac54334918ced", func := "example.com/synod/synod/zzlaws_root_b1.FnBitSetAddThenHasIsMembership", spec := "fnBitSetAddThenHasIsMembership", apart := false }
def FnBitSetAddThenHasIsMembershipSaid : Prop := fnBitSetAddThenHasIsMembershipRow.holds Try.pinned (OpenSpec.ofChange fnBitSetAddThenHasIsMembershipSpec)

/-- ITS FALSE NEIGHBOUR: 'it returns false'. Refute it at one input. -/
def fnBitSetAddThenHasIsMembershipWrong : ChangeSpec := { name := "fnBitSetAddThenHasIsMembership", fn := fun _ => fun
  | [d1, d2] => { results := [.lit (.bool false)], args := [d1, d2] }
  | _ => none }
def FnBitSetAddThenHasIsMembershipWrongFalsely : Prop := fnBitSetAddThenHasIsMembershipRow.holds Try.pinned (OpenSpec.ofChange fnBitSetAddThenHasIsMembershipWrong)

end Rows
end Go.Proofs.Qxb6608777a
