/-
  DERIVED. GIVEN WITH THE SEED: THE CARDS: each row of Qxb6608777aDoorRows.lean that lists a variable, with what it lists TIED to the program's text (the seventh form; the later family's looks); each row that meets fmt, with fmt's text TOLD by the authors' own Lean function (tested against real Go, not proved from fmt's source: count such statements apart). THE CARD IS WHAT COUNTS. Prove the row's statement (the work); the ties are given (Qxb6608777aDoorTie.lean); close each card by the builder's one call (the guide's Derived/Test/ToyasCard.lean, 'card_holds'). Laid BY PROGRAM, IN A SANDBOX (cutbox-door.mjs). By AI agents, Wed Nov 11 2026. No macro, syntax, notation, axiom, sorry.
-/
import Derived.Test.Qxb6608777aDoorRows
import GoSem.ClaimSeven
namespace Go.Proofs.Qxb6608777aDoor
namespace Rows

/-- THE TIED CARD OF 'zzlaws_root_b1.FnLongSumAddIsExactSum'. -/
def fnLongSumAddIsExactSumCard : Claim7 := { stood := { row := fnLongSumAddIsExactSumRow, standIns := [], harness := (true, "dc2827c3f1c73c456a764c359d71d124d4afad6a88809bb5e5a2a65ef2efa95d"), looks := false }, kinds := [], alts := [], laidByText := true, laidKinds := [.data], laidTests := true, laidLooks := .later }
def FnLongSumAddIsExactSumCardSaid : Prop := Claim7.holds Tryd.pinned (.plain (OpenSpec.ofChange fnLongSumAddIsExactSumSpec)) fnLongSumAddIsExactSumCard
end Rows
end Go.Proofs.Qxb6608777aDoor
