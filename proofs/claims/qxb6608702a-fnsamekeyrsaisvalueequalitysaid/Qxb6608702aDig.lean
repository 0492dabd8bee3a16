import Derived.Test.Qxb6608702aCopy
import Derived.Lib.EndianBits
namespace Go.Proofs.Qxb6608702a
open Go.RowKit

/-- The t-th byte of a big-endian row, counted from its end; 0 beyond its head. -/
def dig (A : Nat → Int) (n t : Nat) : Int := if t < n then A (n - 1 - t) else 0
/-- The k-th word of eight bytes, counted from the end. -/
def word (D : Nat → Int) (k : Nat) : Int := D (k * 8) + D (k * 8 + 1) * 256 + D (k * 8 + 2) * 65536 + D (k * 8 + 3) * 16777216 + D (k * 8 + 4) * 4294967296 + D (k * 8 + 5) * 1099511627776 + D (k * 8 + 6) * 281474976710656 + D (k * 8 + 7) * 72057594037927936
/-- All digits are bytes. -/
def DByt (D : Nat → Int) : Prop := ∀ t, 0 ≤ D t ∧ D t < 256
theorem dig_byt {A : Nat → Int} {n : Nat} (h : Byt n A) : DByt (dig A n) := fun t => by
  unfold dig
  split
  · exact h _ (by omega)
  · omega
theorem word_lo {D : Nat → Int} (h : DByt D) (k : Nat) : 0 ≤ word D k := by
  unfold word
  have := h (k * 8); have := h (k * 8 + 1); have := h (k * 8 + 2); have := h (k * 8 + 3); have := h (k * 8 + 4); have := h (k * 8 + 5); have := h (k * 8 + 6); have := h (k * 8 + 7)
  omega
theorem word_hi {D : Nat → Int} (h : DByt D) (k : Nat) : word D k < 18446744073709551616 := by
  unfold word
  have := h (k * 8); have := h (k * 8 + 1); have := h (k * 8 + 2); have := h (k * 8 + 3); have := h (k * 8 + 4); have := h (k * 8 + 5); have := h (k * 8 + 6); have := h (k * 8 + 7)
  omega
theorem word_zero {D : Nat → Int} (h : DByt D) {k : Nat} (hz : word D k = 0) : ∀ j, j < 8 → D (k * 8 + j) = 0 := by
  unfold word at hz
  have h0 := h (k * 8); have h1 := h (k * 8 + 1); have h2 := h (k * 8 + 2); have h3 := h (k * 8 + 3); have h4 := h (k * 8 + 4); have h5 := h (k * 8 + 5); have h6 := h (k * 8 + 6); have h7 := h (k * 8 + 7)
  intro j hj
  match j, hj with
  | 0, _ => simp only [Nat.add_zero]; omega
  | 1, _ => omega
  | 2, _ => omega
  | 3, _ => omega
  | 4, _ => omega
  | 5, _ => omega
  | 6, _ => omega
  | 7, _ => omega

/-- S is the number of digits that count. -/
def Sig (D : Nat → Int) (S : Nat) : Prop := (∀ t, S ≤ t → D t = 0) ∧ (S = 0 ∨ D (S - 1) ≠ 0)
theorem sig_unique {D : Nat → Int} {S T : Nat} (hS : Sig D S) (hT : Sig D T) : S = T := by
  rcases Nat.lt_trichotomy S T with h | h | h
  · rcases hT.2 with e | e
    · omega
    · exact absurd (hS.1 (T - 1) (by omega)) e
  · exact h
  · rcases hS.2 with e | e
    · omega
    · exact absurd (hT.1 (S - 1) (by omega)) e
/-- The digits that count, the greatest first. -/
def rev (D : Nat → Int) (S p : Nat) : Int := D (S - 1 - p)

set_option maxRecDepth 100000 in
set_option maxHeartbeats 4000000 in
theorem be64_any (b o c : Nat) (A : Nat → Int) (w : World) (hA : Byt 8 A) (hc : ∀ i, i < 8 → w.cell? ⟨b, o + i, none⟩ = some (.int .u8 (A i))) :
    Calls Try.prog 24 #[.slice (some ⟨b, o, none⟩) 8 c] w fun e w' => e = .returned (.int .u64 (A 7 + A 6 * 256 + A 5 * 65536 + A 4 * 16777216 + A 3 * 4294967296 + A 2 * 1099511627776 + A 1 * 281474976710656 + A 0 * 72057594037927936)) ∧ ∃ nq, w' = w.drewN nq := by
  have c0 := hc 0 (by omega); have c1 := hc 1 (by omega); have c2 := hc 2 (by omega); have c3 := hc 3 (by omega)
  have c4 := hc 4 (by omega); have c5 := hc 5 (by omega); have c6 := hc 6 (by omega); have c7 := hc 7 (by omega)
  simp only [Nat.add_zero] at c0
  obtain ⟨l0, h0⟩ := hA 0 (by omega); obtain ⟨l1, h1⟩ := hA 1 (by omega); obtain ⟨l2, h2⟩ := hA 2 (by omega); obtain ⟨l3, h3⟩ := hA 3 (by omega)
  obtain ⟨l4, h4⟩ := hA 4 (by omega); obtain ⟨l5, h5⟩ := hA 5 (by omega); obtain ⟨l6, h6⟩ := hA 6 (by omega); obtain ⟨l7, h7⟩ := hA 7 (by omega)
  clear hc hA
  generalize A 0 = a0 at *
  generalize A 1 = a1 at *
  generalize A 2 = a2 at *
  generalize A 3 = a3 at *
  generalize A 4 = a4 at *
  generalize A 5 = a5 at *
  generalize A 6 = a6 at *
  generalize A 7 = a7 at *
  go_enter Try.func24, Try.ntmps24
  go_wp2
  go_quiet (fail)
  go_wp2
  go_ret
  refine ⟨?_, _, rfl⟩
  simp (disch := omega) only [u64_or8, u64_or16, u64_or24, u64_or32, u64_or40, u64_or48, u64_or56]
  rfl
end Go.Proofs.Qxb6608702a
