import Derived.Test.Qxb6608645aNames
import Derived.ProofKit
import Derived.OpenShut
import Derived.Deep.Strs
namespace Go.Proofs.Qxb6608645a
open Go.ChangeShapes Go.WideShapes Go.ChangeAt Go.RowKit

theorem cells9 : Try.prog.cellsOf 9 = 1 := by kernel_rfl
theorem block_lt {W : World} {b o : Nat} {v : Value} (h : W.cell? ⟨b, o, none⟩ = some v) : b < W.heap.size := by
  apply Nat.lt_of_not_le
  intro hle
  have e : W.heap[b]? = none := by simp; omega
  simp [World.cell?, e] at h

/-- The list of strings that came in: it is nil; or empty; or it leads to a row of strings. -/
theorem open_names2 {H : Type} {enc : TypeId × Value → H} {W : World} {fuel : Nat} {a : Option Addr} {len cap : Nat} {x : DataW H × List MemPlace}
    (hf : DataW.trod enc Try.prog W 0 (fun _ => true) true fuel 22 [.slice a len cap] = some x) :
    (a = none ∧ len = 0 ∧ cap = 0) ∨ (∃ y, a = some y ∧ len = 0) ∨ ∃ b off S, a = some ⟨b, off, none⟩ ∧ StrAt W b off len S ∧ len ≤ maxLen ∧ b < W.heap.size ∧ len ≤ cap := by
  rcases Deep.open_strs Try.underlying22 Try.underlying9 cells9 hf with ⟨hcs, _⟩ | ⟨a', len', cap', m, Sx, hcs, _, hl, hm, hmm, _, hx⟩
  · simp at hcs; exact Or.inl hcs
  simp at hcs
  obtain ⟨rfl, rfl, rfl⟩ := hcs
  right
  by_cases h0 : len = 0
  · exact Or.inl ⟨_, rfl, h0⟩
  right
  simp only [if_true] at hmm
  subst hmm
  obtain ⟨b, off, spot⟩ := a'
  have hspot : spot = none := by simpa [Addr.add] using World.cell?_spot (hx 0 (by omega)).1
  subst hspot
  simp only [add_plain] at hx
  exact ⟨b, off, Sx, rfl, fun i hi => hx i (by omega), by omega, block_lt (hx 0 (by omega)).1, hl⟩
end Go.Proofs.Qxb6608645a
