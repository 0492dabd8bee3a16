import Derived.Test.Qxb6608777aDoorBits
namespace Go.Proofs.Qxb6608777aDoor
open Go.RowKit

/-- De Bruijn's table. -/
def tab : List Nat := [0, 1, 56, 2, 57, 49, 28, 3, 61, 58, 42, 50, 38, 29, 17, 4, 62, 47, 59, 36, 45, 43, 51, 22, 53, 39, 33, 30, 24, 18, 12, 5, 63, 55, 48, 27, 60, 41, 37, 16, 46, 35, 44, 21, 52, 32, 23, 11, 54, 26, 40, 15, 34, 20, 31, 10, 25, 14, 19, 9, 13, 8, 7, 6]
/-- The table lies in block 1. -/
def Tab (w : World) : Prop := 1 < w.heap.size ∧ ∀ i, i < 64 → w.cell? ⟨1, i, none⟩ = some (.int .u8 (tab.getD i 0 : Nat))
/-- Where the table is looked at for 2^t. -/
def at58 (t : Nat) : Nat := 2 ^ t * 285870213051353865 % 18446744073709551616 / 288230376151711744
theorem at58_ok : ∀ t, t < 64 → at58 t < 64 ∧ tab.getD (at58 t) 0 = t := by decide +kernel

theorem split_two : ∀ x : Nat, 0 < x → ∃ t u, x = 2 ^ t * (2 * u + 1) := by
  intro x
  induction x using Nat.strongRecOn with
  | ind x ih =>
    intro h
    by_cases ho : x % 2 = 1
    · exact ⟨0, x / 2, by omega⟩
    · obtain ⟨t, u, e⟩ := ih (x / 2) (by omega) (by omega)
      exact ⟨t + 1, u, by rw [Nat.pow_succ, Nat.mul_right_comm, ← e]; omega⟩

theorem low_bit (t u : Nat) (h : 2 ^ t * (2 * u + 1) < 18446744073709551616) : 2 ^ t * (2 * u + 1) &&& (18446744073709551616 - 2 ^ t * (2 * u + 1)) = 2 ^ t := by
  have hp : 0 < 2 ^ t := Nat.two_pow_pos t
  have hpos : 0 < 2 ^ t * (2 * u + 1) := Nat.mul_pos hp (by omega)
  have e1 : 2 ^ t * (2 * u + 1) - 1 = 2 ^ t * (2 * u) + (2 ^ t - 1) := by rw [Nat.mul_add, Nat.mul_one]; omega
  apply Nat.eq_of_testBit_eq
  intro i
  rw [Nat.testBit_and]
  have e2 : 18446744073709551616 - 2 ^ t * (2 * u + 1) = 2 ^ 64 - ((2 ^ t * (2 * u + 1) - 1) + 1) := by omega
  rw [e2, Nat.testBit_two_pow_sub_succ (by omega), e1, Nat.testBit_two_pow_mul_add _ (by omega), Nat.testBit_two_pow_mul, Nat.testBit_two_pow, Nat.testBit_two_pow_sub_one]
  by_cases h1 : i < t
  · have : ¬ t = i := by omega
    have : ¬ i ≥ t := by omega
    simp [*]
  · by_cases h2 : t = i
    · subst h2
      have h64 : t < 64 := by
        apply Nat.lt_of_not_le
        intro hc
        have h3 : 2 ^ 64 ≤ 2 ^ t := Nat.pow_le_pow_right (by omega) hc
        have h4 : 2 ^ t * 1 ≤ 2 ^ t * (2 * u + 1) := Nat.mul_le_mul_left _ (by omega)
        omega
      simp [h64]
    · have h3 : i ≥ t := by omega
      have h4 : ¬ i < t := h1
      obtain ⟨d, hd⟩ : ∃ d, i - t = d + 1 := ⟨i - t - 1, by omega⟩
      have h5 : (2 * u + 1) / 2 = u := by omega
      have h6 : 2 * u / 2 = u := by omega
      rw [hd, Nat.testBit_succ, Nat.testBit_succ, h5, h6]
      cases u.testBit d <;> simp [h1, h2, h3]

theorem neg_wrap (x : Nat) (h0 : 0 < x) (hx : x < 18446744073709551616) : IntKind.u64.wrap (-(x : Int)) = ((18446744073709551616 - x : Nat) : Int) := by
  rw [IntKind.wrap_u64]
  omega
theorem tz_mul (t u : Nat) (h : 2 ^ t * (2 * u + 1) < 18446744073709551616) : IntKind.u64.wrap (bits BinOp.and IntKind.u64 ((2 ^ t * (2 * u + 1) : Nat) : Int) (IntKind.u64.wrap (-((2 ^ t * (2 * u + 1) : Nat) : Int))) * 285870213051353865) = ((2 ^ t * 285870213051353865 % 18446744073709551616 : Nat) : Int) := by
  have hpos : 0 < 2 ^ t * (2 * u + 1) := Nat.mul_pos (Nat.two_pow_pos t) (by omega)
  have hl := low_bit t u h
  generalize hx : 2 ^ t * (2 * u + 1) = x at h hpos hl ⊢
  rw [neg_wrap x hpos h, u64_and_nat x _ h (by omega), hl, IntKind.wrap_u64]
  generalize 2 ^ t = y
  omega

theorem div58 (M : Nat) : (M : Int) / 288230376151711744 = ((M / 288230376151711744 : Nat) : Int) := by omega

set_option maxHeartbeats 1000000 in
theorem tz_core (x M I t : Nat) (w : World) (ht : t < 64) (hpos : 0 < x) (h : x < 18446744073709551616) (q : IntKind.u64.wrap (bits BinOp.and IntKind.u64 (x : Int) (IntKind.u64.wrap (-(x : Int))) * 285870213051353865) = (M : Int)) (q2 : (M : Int) / 288230376151711744 = (I : Int)) (hi : I < 64) (c : w.cell? ⟨1, I, none⟩ = some (.int .u8 (t : Int))) :
    Calls Tryd.prog 18 #[.int .u64 (x : Int)] w fun e w' => e = .returned (.int .i64 t) ∧ w = w' := by
  have g1 : (I : Int) < 64 := by omega
  go_enter Tryd.func18, Tryd.ntmps18
  go_wp2
  go_ret
  exact ⟨rfl, rfl⟩

theorem tz_any (t u : Nat) (w : World) (ht : t < 64) (h : 2 ^ t * (2 * u + 1) < 18446744073709551616) (hT : Tab w) :
    Calls Tryd.prog 18 #[.int .u64 (2 ^ t * (2 * u + 1) : Nat)] w fun e w' => e = .returned (.int .i64 t) ∧ w = w' := by
  obtain ⟨hi, htab⟩ := at58_ok t ht
  have c := hT.2 _ hi
  rw [htab] at c
  exact tz_core _ _ (at58 t) t w ht (Nat.mul_pos (Nat.two_pow_pos t) (by omega)) h (tz_mul t u h) (div58 _) hi c
end Go.Proofs.Qxb6608777aDoor
