/-
  No cell of these rows narrows 'for every input' (looked for: loops, veiled, ifaces, maps, wideKeys, modest, calm, conditions, laid).
  DERIVED. THE GIVEN ROWS OF THIS SEAT. 2 by the template 'for every input the law returns true; each argument reads behind the call as it read before'; 0 by the template 'total and deterministic' (their statements: Qxb6608645aTotals.lean).
  GIVEN WITH THE SEED: the statements are not yours to turn. If you find one false, say at which input.
  Laid BY PROGRAM, IN A SANDBOX (cutbox-rows.mjs): the forced cells as the released guide's own fill.sh prints them over the translation 60cc2f81758d5a29… (all of the seat's roots in one cut). By AI agents, Wed Nov 11 2026. No macro, syntax, notation, axiom, sorry.
-/
import Derived.Test.Qxb6608645aChecked
import GoSem.Claim
import GoSem.ClaimJoined
import GoSem.ClaimMapViews
import Derived.JoinedTies
import Derived.KernelRfl
namespace Go.Proofs.Qxb6608645a
/- THE CELL 'sum', in the pinned program and in every row, IS THE sha256 OF THE DUMP (.gsa) THAT Qxb6608645aProg.lean LOADS. Nothing in Lean hashes anything: it is a label: what it is worth is what the hold of that sum in a sandbox is worth. -/
noncomputable def Try.pinned : Pinned := { name := "qxb6608645a", sum := "60cc2f81758d5a297414e4c1f68566cac04f12bdf43d90bc293cecc5bd821fca", checked := Try.checked }
namespace Rows
def none {H : Type} : Left H := { results := [], args := [] }

/-- 'zzlaws_internal_debate_b1.FnIndexOfJoinsAtAnyCut': WHATEVER THE INPUT: true; the input reads as it did. -/
def fnIndexOfJoinsAtAnyCutSpec : ChangeSpec := { name := "fnIndexOfJoinsAtAnyCut", fn := fun _ => fun
  | [d1, d2, d3] => { results := [.lit (.bool true)], args := [d1, d2, d3] }
  | _ => none }
def fnIndexOfJoinsAtAnyCutRow : OpenClaim := { program := "qxb6608645a", sum := "60cc2f81758d5a297414e4c1f68566cac04f12bdf43d90bc293cecc5bd821fca", func := "example.com/moot/moot/zzlaws_internal_debate_b1.FnIndexOfJoinsAtAnyCut", spec := "fnIndexOfJoinsAtAnyCut", unfollowed := true, recurses := true, apart := false }
def FnIndexOfJoinsAtAnyCutSaid : Prop := fnIndexOfJoinsAtAnyCutRow.holds Try.pinned (OpenSpec.ofChange fnIndexOfJoinsAtAnyCutSpec)

/-- ITS FALSE NEIGHBOUR: 'it returns false'. Refute it at one input. -/
def fnIndexOfJoinsAtAnyCutWrong : ChangeSpec := { name := "fnIndexOfJoinsAtAnyCut", fn := fun _ => fun
  | [d1, d2, d3] => { results := [.lit (.bool false)], args := [d1, d2, d3] }
  | _ => none }
def FnIndexOfJoinsAtAnyCutWrongFalsely : Prop := fnIndexOfJoinsAtAnyCutRow.holds Try.pinned (OpenSpec.ofChange fnIndexOfJoinsAtAnyCutWrong)

/-- 'zzlaws_internal_debate_b1.FnIndexOfAfterInsertAt': WHATEVER THE INPUT: true; the input reads as it did. -/
def fnIndexOfAfterInsertAtSpec : ChangeSpec := { name := "fnIndexOfAfterInsertAt", fn := fun _ => fun
  | [d1, d2, d3] => { results := [.lit (.bool true)], args := [d1, d2, d3] }
  | _ => none }
def fnIndexOfAfterInsertAtRow : OpenClaim := { program := "qxb6608645a", sum := "60cc2f81758d5a297414e4c1f68566cac04f12bdf43d90bc293cecc5bd821fca", func := "example.com/moot/moot/zzlaws_internal_debate_b1.FnIndexOfAfterInsertAt", spec := "fnIndexOfAfterInsertAt", unfollowed := true, recurses := true, apart := false }
def FnIndexOfAfterInsertAtSaid : Prop := fnIndexOfAfterInsertAtRow.holds Try.pinned (OpenSpec.ofChange fnIndexOfAfterInsertAtSpec)

/-- ITS FALSE NEIGHBOUR: 'it returns false'. Refute it at one input. -/
def fnIndexOfAfterInsertAtWrong : ChangeSpec := { name := "fnIndexOfAfterInsertAt", fn := fun _ => fun
  | [d1, d2, d3] => { results := [.lit (.bool false)], args := [d1, d2, d3] }
  | _ => none }
def FnIndexOfAfterInsertAtWrongFalsely : Prop := fnIndexOfAfterInsertAtRow.holds Try.pinned (OpenSpec.ofChange fnIndexOfAfterInsertAtWrong)

end Rows
end Go.Proofs.Qxb6608645a
