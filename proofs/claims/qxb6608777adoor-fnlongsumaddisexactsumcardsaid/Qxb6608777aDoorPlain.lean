import Derived.Test.Qxb6608777aDoorBits
namespace Go.Proofs.Qxb6608777aDoor

/-- A word of a long number. -/
def wd (P k : Nat) : Nat := P / 2 ^ (64 * k) % 18446744073709551616
/-- A float's magnitude, in units of the least subnormal. -/
def mag (b : Nat) : Nat := sig b * 2 ^ base b
/-- The number that the columns stand for. -/
def tot (C : Nat → Nat) : Nat → Nat
  | 0 => 0
  | p + 1 => tot C p + C p * 2 ^ p
theorem wd_lt (P k : Nat) : wd P k < 18446744073709551616 := Nat.mod_lt _ (by omega)

theorem tot_step (C : Nat → Nat) (p : Nat) : C p + tot C p / 2 ^ p = tot C (p + 1) / 2 ^ p := by
  show _ = (tot C p + C p * 2 ^ p) / 2 ^ p
  rw [Nat.add_mul_div_right _ _ (Nat.two_pow_pos p)]; omega
theorem tot_carry (C : Nat → Nat) (p : Nat) : tot C (p + 1) / 2 ^ p / 2 = tot C (p + 1) / 2 ^ (p + 1) := by
  rw [Nat.div_div_eq_div_mul, ← Nat.pow_succ]
theorem tot_le {C : Nat → Nat} {K n : Nat} (h : ∀ p, p < n → C p ≤ K) : ∀ p, p ≤ n → tot C p + K ≤ K * 2 ^ p
  | 0, _ => by simp [tot]
  | p + 1, hp => by
    have ih := tot_le h p (by omega)
    have h1 : C p * 2 ^ p ≤ K * 2 ^ p := Nat.mul_le_mul_right _ (h p (by omega))
    show tot C p + C p * 2 ^ p + K ≤ _
    rw [Nat.pow_succ, ← Nat.mul_assoc]; omega
theorem tot_div {C : Nat → Nat} {K n p : Nat} (h : ∀ p, p < n → C p ≤ K) (hp : p ≤ n) : tot C p / 2 ^ p ≤ K :=
  Nat.div_le_of_le_mul (by have := tot_le h p hp; rw [Nat.mul_comm]; omega)
theorem tot_low (C : Nat → Nat) (p : Nat) : tot C (p + 1) % 2 ^ (p + 1) = tot C p % 2 ^ p + 2 ^ p * (tot C (p + 1) / 2 ^ p % 2) := by
  rw [Nat.mod_pow_succ]
  congr 1
  show (tot C p + C p * 2 ^ p) % 2 ^ p = _
  rw [Nat.add_mul_mod_self_right]
/-- One more in one column. -/
def bump (C : Nat → Nat) (q p : Nat) : Nat := if p = q then C p + 1 else C p
theorem tot_same {C D : Nat → Nat} : ∀ n, (∀ p, p < n → C p = D p) → tot C n = tot D n
  | 0, _ => rfl
  | n + 1, h => by
    show tot C n + C n * 2 ^ n = tot D n + D n * 2 ^ n
    rw [tot_same n (fun p hp => h p (by omega)), h n (by omega)]
theorem tot_bump (C : Nat → Nat) (q : Nat) : ∀ n, q < n → tot (bump C q) n = tot C n + 2 ^ q
  | 0, h => by omega
  | n + 1, h => by
    show tot (bump C q) n + bump C q n * 2 ^ n = tot C n + C n * 2 ^ n + 2 ^ q
    by_cases e : n = q
    · subst e
      rw [tot_same n (D := C) (fun p hp => by unfold bump; rw [if_neg (by omega)])]
      unfold bump
      rw [if_pos rfl, Nat.add_mul]; omega
    · rw [tot_bump C q n (by omega)]
      unfold bump
      rw [if_neg e]; omega

theorem mod_bit (s i : Nat) : s % 2 ^ (i + 1) = s % 2 ^ i + (if s.testBit i then 2 ^ i else 0) := by
  rw [Nat.mod_pow_succ, Nat.testBit_eq_decide_div_mod_eq]
  have h : s / 2 ^ i % 2 = 0 ∨ s / 2 ^ i % 2 = 1 := by omega
  rcases h with h | h <;> simp [h]

theorem pow64 (j : Nat) : 2 ^ (64 * (j + 1)) = 2 ^ (64 * j) * 18446744073709551616 := by
  rw [Nat.mul_add, Nat.pow_add]
theorem wd_mod {n k : Nat} (N : Nat) (h : k < n) : wd (N % 2 ^ (64 * n)) k = wd N k := by
  obtain ⟨d, rfl⟩ : ∃ d, n = k + 1 + d := ⟨n - k - 1, by omega⟩
  unfold wd
  have e : 2 ^ (64 * (k + 1 + d)) = 2 ^ (64 * k) * (18446744073709551616 * 2 ^ (64 * d)) := by
    rw [← Nat.mul_assoc, ← pow64, ← Nat.pow_add]; congr 1; omega
  rw [e, Nat.mod_mul_right_div_self, Nat.mod_mul_right_mod]
theorem wd_zero {P j : Nat} (h : P < 2 ^ (64 * j)) : wd P j = 0 := by
  unfold wd; rw [Nat.div_eq_of_lt h]

theorem bit_here {M p : Nat} (h : M < 2 ^ p) : wd (M + 2 ^ p) (p / 64) = wd M (p / 64) ||| 2 ^ (p % 64) := by
  have e : 2 ^ p = 2 ^ (p % 64) * 2 ^ (64 * (p / 64)) := by rw [← Nat.pow_add]; congr 1; omega
  have h1 : M / 2 ^ (64 * (p / 64)) < 2 ^ (p % 64) := by
    rw [Nat.div_lt_iff_lt_mul (Nat.two_pow_pos _)]; omega
  have h3 : 2 ^ (p % 64) ≤ 2 ^ 63 := Nat.pow_le_pow_right (by omega) (by omega)
  unfold wd
  rw [e, Nat.add_mul_div_right _ _ (Nat.two_pow_pos _)]
  generalize M / 2 ^ (64 * (p / 64)) = x at h1
  have h4 := Nat.two_pow_add_eq_or_of_lt (i := p % 64) (b := x) h1 1
  rw [Nat.mul_one] at h4
  have h5 : x % 18446744073709551616 = x := Nat.mod_eq_of_lt (by omega)
  have h6 : (x + 2 ^ (p % 64)) % 18446744073709551616 = x + 2 ^ (p % 64) := Nat.mod_eq_of_lt (by omega)
  rw [h5, h6, Nat.or_comm, Nat.add_comm]
  exact h4
theorem bit_there {M p k : Nat} (h : M < 2 ^ p) (hk : k ≠ p / 64) : wd (M + 2 ^ p) k = wd M k := by
  by_cases hlt : k < p / 64
  · have e : 2 ^ p = 2 ^ (p - 64 * (k + 1)) * 18446744073709551616 * 2 ^ (64 * k) := by
      rw [Nat.mul_assoc, Nat.mul_comm 18446744073709551616, ← pow64, ← Nat.pow_add]; congr 1; omega
    unfold wd
    rw [e, Nat.add_mul_div_right _ _ (Nat.two_pow_pos _), Nat.add_mul_mod_self_right]
  · have h1 : 2 ^ (p + 1) ≤ 2 ^ (64 * k) := Nat.pow_le_pow_right (by omega) (by omega)
    rw [Nat.pow_succ] at h1
    rw [wd_zero (by omega), wd_zero (by omega)]

/-- The carry into word j of a sum. -/
def car (P A j : Nat) : Nat := (P % 2 ^ (64 * j) + A % 2 ^ (64 * j)) / 2 ^ (64 * j)
theorem wd_add (P A j : Nat) : wd (P + A) j = (wd P j + wd A j + car P A j) % 18446744073709551616 := by
  unfold wd car
  generalize hX : 2 ^ (64 * j) = X
  have hp : 0 < X := by rw [← hX]; exact Nat.two_pow_pos _
  have e : (P + A) / X = P / X + A / X + (P % X + A % X) / X := by
    have h1 := Nat.div_add_mod P X
    have h2 := Nat.div_add_mod A X
    have h3 : P + A = (P % X + A % X) + X * (P / X + A / X) := by rw [Nat.mul_add]; omega
    rw [h3, Nat.add_mul_div_left _ _ hp]; omega
  rw [e]; omega
theorem car_succ (P A j : Nat) : car P A (j + 1) = (wd P j + wd A j + car P A j) / 18446744073709551616 := by
  unfold wd car
  rw [pow64]
  generalize hX : 2 ^ (64 * j) = X
  have hp : 0 < X := by rw [← hX]; exact Nat.two_pow_pos _
  rw [Nat.mod_mul, Nat.mod_mul, ← Nat.div_div_eq_div_mul]
  congr 1
  have h3 : P % X + X * (P / X % 18446744073709551616) + (A % X + X * (A / X % 18446744073709551616)) = (P % X + A % X) + X * (P / X % 18446744073709551616 + A / X % 18446744073709551616) := by rw [Nat.mul_add]; omega
  rw [h3, Nat.add_mul_div_left _ _ hp]; omega
theorem car_le (P A j : Nat) : car P A j ≤ 1 := by
  unfold car
  generalize hX : 2 ^ (64 * j) = X
  have hp : 0 < X := by rw [← hX]; exact Nat.two_pow_pos _
  have h1 := Nat.mod_lt P hp
  have h2 := Nat.mod_lt A hp
  have : (P % X + A % X) / X < 2 := by rw [Nat.div_lt_iff_lt_mul hp]; omega
  omega
theorem car_zero {P A j : Nat} (h : A % 2 ^ (64 * j) = 0) : car P A j = 0 := by
  unfold car
  rw [h, Nat.add_zero]
  exact Nat.div_eq_of_lt (Nat.mod_lt _ (Nat.two_pow_pos _))
theorem car_big {P A j : Nat} (h : car P A j ≠ 0) : 2 ^ (64 * j) ≤ P + A := by
  apply Nat.le_of_not_lt
  intro hc
  apply h
  unfold car
  refine Nat.div_eq_of_lt ?_
  have h1 := Nat.mod_le P (2 ^ (64 * j))
  have h2 := Nat.mod_le A (2 ^ (64 * j))
  omega

/-- A number of at most 53 digits at a place. -/
theorem at_mod {m at' j : Nat} (h : 64 * j ≤ at') : (m * 2 ^ at') % 2 ^ (64 * j) = 0 := by
  obtain ⟨d, rfl⟩ : ∃ d, at' = 64 * j + d := ⟨at' - 64 * j, by omega⟩
  rw [Nat.pow_add, ← Nat.mul_assoc, Nat.mul_right_comm, Nat.mul_mod_left]
theorem at_split (m at' : Nat) : m * 2 ^ at' = m * 2 ^ (at' % 64) * 2 ^ (64 * (at' / 64)) := by
  rw [Nat.mul_assoc, ← Nat.pow_add]; congr 2; omega
theorem at_low (m at' : Nat) : wd (m * 2 ^ at') (at' / 64) = m * 2 ^ (at' % 64) % 18446744073709551616 := by
  unfold wd
  rw [at_split, Nat.mul_div_cancel _ (Nat.two_pow_pos _)]
theorem at_high {m at' : Nat} (hm : m < 9007199254740992) : wd (m * 2 ^ at') (at' / 64 + 1) = m * 2 ^ (at' % 64) / 18446744073709551616 ∧ m * 2 ^ (at' % 64) / 18446744073709551616 < 9007199254740992 := by
  have h3 : 2 ^ (at' % 64) ≤ 2 ^ 63 := Nat.pow_le_pow_right (by omega) (by omega)
  have h4 : m * 2 ^ (at' % 64) ≤ m * 2 ^ 63 := Nat.mul_le_mul_left _ h3
  unfold wd
  rw [at_split, pow64, Nat.mul_comm (2 ^ (64 * (at' / 64))), Nat.mul_div_mul_right _ _ (Nat.two_pow_pos _)]
  generalize m * 2 ^ (at' % 64) = x at h4
  omega
theorem at_above {m at' j : Nat} (hm : m < 9007199254740992) (hj : at' / 64 + 2 ≤ j) : wd (m * 2 ^ at') j = 0 := by
  apply wd_zero
  have h1 : m * 2 ^ at' < 2 ^ 53 * 2 ^ at' := Nat.mul_lt_mul_of_pos_right (by omega) (Nat.two_pow_pos _)
  have h2 : 2 ^ (53 + at') ≤ 2 ^ (64 * j) := Nat.pow_le_pow_right (by omega) (by omega)
  rw [Nat.pow_add] at h2
  omega
theorem at_below {P m at' j : Nat} (hj : j < at' / 64) : wd (P + m * 2 ^ at') j = wd P j := by
  have h1 := wd_add P (m * 2 ^ at') j
  rw [car_zero (at_mod (by omega))] at h1
  have h2 : wd (m * 2 ^ at') j = 0 := by
    have h := at_mod (m := m) (at' := at') (j := j + 1) (by omega)
    unfold wd
    rw [pow64] at h
    rw [← Nat.mod_mul_right_div_self, h, Nat.zero_div]
  rw [h1, h2, Nat.add_zero]
  exact Nat.mod_eq_of_lt (wd_lt P j)
/-- Above the last carry nothing turns. -/
theorem add_above {P A e : Nat} (hA : ∀ j, e ≤ j → wd A j = 0) (hc : car P A e = 0) : ∀ j, e ≤ j → car P A j = 0 ∧ wd (P + A) j = wd P j := by
  intro j hj
  have key : car P A j = 0 := by
    induction j with
    | zero => obtain rfl : e = 0 := by omega
              exact hc
    | succ j ih =>
      by_cases h : e = j + 1
      · subst h; exact hc
      · rw [car_succ, ih (by omega), hA j (by omega)]
        exact Nat.div_eq_of_lt (by have := wd_lt P j; omega)
  refine ⟨key, ?_⟩
  rw [wd_add, key, hA j hj, Nat.add_zero]
  exact Nat.mod_eq_of_lt (wd_lt P j)

set_option exponentiation.threshold 4000 in
theorem mag_lt {b : Nat} (he : expo b ≠ 2047) : mag b < 2 ^ 2098 := by
  have h1 := sig_lt b
  have h2 := expo_lt b
  unfold mag
  have h3 : 2 ^ base b ≤ 2 ^ 2045 := Nat.pow_le_pow_right (by omega) (by unfold base; omega)
  have h4 : sig b * 2 ^ base b < 2 ^ 53 * 2 ^ base b := Nat.mul_lt_mul_of_pos_right (by omega) (Nat.two_pow_pos _)
  have h5 : 2 ^ 53 * 2 ^ base b ≤ 2 ^ 53 * 2 ^ 2045 := Nat.mul_le_mul_left _ h3
  rw [show (2098 : Nat) = 53 + 2045 from rfl, Nat.pow_add]
  exact Nat.lt_of_lt_of_le h4 h5
end Go.Proofs.Qxb6608777aDoor
