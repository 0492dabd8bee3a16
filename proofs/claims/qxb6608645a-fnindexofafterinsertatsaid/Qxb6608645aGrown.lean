import Derived.Test.Qxb6608645aIndex
import Derived.OwnWalk
namespace Go.Proofs.Qxb6608645a
open Go.RowKit

/-- The list with s put in at place A. -/
def grw (A : Nat) (S : Nat → ByteArray) (s : ByteArray) (i : Nat) : ByteArray := if i < A then S i else if i = A then s else S (i - 1)
theorem grw_lt {A : Nat} {S : Nat → ByteArray} {s : ByteArray} {i : Nat} (h : i < A) : grw A S s i = S i := by simp [grw, h]
theorem grw_at (A : Nat) (S : Nat → ByteArray) (s : ByteArray) : grw A S s A = s := by simp [grw]
theorem grw_gt {A : Nat} {S : Nat → ByteArray} {s : ByteArray} {i : Nat} (h : A ≤ i) : grw A S s (i + 1) = S i := by
  unfold grw; rw [if_neg (by omega), if_neg (by omega)]; rfl
theorem eqS_self (s : ByteArray) : eqS s s = true := by simp [eqS]

/-- What a row of strings holds, as cells. -/
def cont (F : Nat → ByteArray) (n : Nat) : List Value := (List.range n).map fun i => Value.string (F i)
theorem cont_succ (F : Nat → ByteArray) (n : Nat) : cont F n ++ [.string (F n)] = cont F (n + 1) := by simp [cont, List.range_succ]
theorem cont_at (F : Nat → ByteArray) (n j : Nat) (h : j < n) : (cont F n)[j]? = some (.string (F j)) := by simp [cont, h]

/-- Where the name stands once it is put in. -/
theorem idx_hit {len A : Nat} {S : Nat → ByteArray} {s : ByteArray} {R : Nat} {r2 : Int} (hA : A ≤ len) (h2 : IsIdx (len + 1) (grw A S s) s r2) (hR : R < A) (h1 : eqS (S R) s = true) (h0 : ∀ i, i < R → eqS (S i) s = false) : r2 = R := by
  rcases h2 with ⟨_, hn⟩ | ⟨k, rfl, hk, hk1, hk0⟩
  · have := hn A (by omega); rw [grw_at, eqS_self] at this; cases this
  · rcases Nat.lt_trichotomy k R with h | h | h
    · rw [grw_lt (by omega), h0 k h] at hk1; cases hk1
    · rw [h]
    · have := hk0 R h; rw [grw_lt hR, h1] at this; cases this
theorem idx_at {len A : Nat} {S : Nat → ByteArray} {s : ByteArray} {r2 : Int} (hA : A ≤ len) (h2 : IsIdx (len + 1) (grw A S s) s r2) (h0 : ∀ i, i < A → eqS (S i) s = false) : r2 = A := by
  rcases h2 with ⟨_, hn⟩ | ⟨k, rfl, hk, hk1, hk0⟩
  · have := hn A (by omega); rw [grw_at, eqS_self] at this; cases this
  · rcases Nat.lt_trichotomy k A with h | h | h
    · rw [grw_lt h, h0 k h] at hk1; cases hk1
    · rw [h]
    · have := hk0 A h; rw [grw_at, eqS_self] at this; cases this

theorem info9 : (Try.prog.info? 9).map (fun i => (i.zero, i.size, i.bytes)) = some (some (.string ⟨#[]⟩), 1, 16) := by kernel_rfl
end Go.Proofs.Qxb6608645a
