import Derived.Test.Qxb6608777aDoorMid
namespace Go.Proofs.Qxb6608777aDoor

/-- The word of a float's lowest bit. -/
noncomputable def qOf (b : Nat) : Nat := atOf b / 64
/-- Of the first k floats: is one not zero? the lowest, the highest word; the sums of both signs. -/
def tch (X : Nat → Nat) : Nat → Bool
  | 0 => false
  | k + 1 => tch X k || decide (sig (X k) ≠ 0)
noncomputable def loW (X : Nat → Nat) : Nat → Nat
  | 0 => 0
  | k + 1 => if sig (X k) = 0 then loW X k else if tch X k = false ∨ qOf (X k) < loW X k then qOf (X k) else loW X k
noncomputable def mxW (X : Nat → Nat) : Nat → Nat
  | 0 => 0
  | k + 1 => if sig (X k) = 0 then mxW X k else if tch X k = false ∨ mxW X k < qOf (X k) then qOf (X k) else mxW X k
def upS (X : Nat → Nat) : Nat → Nat
  | 0 => 0
  | k + 1 => upS X k + (if sgn (X k) = 1 then 0 else mag (X k))
def dnS (X : Nat → Nat) : Nat → Nat
  | 0 => 0
  | k + 1 => dnS X k + (if sgn (X k) = 1 then mag (X k) else 0)

/-- What is known of the window behind k additions. -/
structure Win (X : Nat → Nat) (k P Q lo hi : Nat) : Prop where
  low : lo = loW X k
  none : tch X k = false → hi = 0 ∧ P = 0 ∧ Q = 0
  some : tch X k = true → mxW X k + 2 ≤ hi
  high : hi ≤ 34
  out : ∀ j, j < lo ∨ hi ≤ j → wd P j = 0 ∧ wd Q j = 0
theorem wd_null (j : Nat) : wd 0 j = 0 := by unfold wd; rw [Nat.zero_div]
theorem Win.zero (X : Nat → Nat) : Win X 0 0 0 0 0 := ⟨rfl, fun _ => ⟨rfl, rfl, rfl⟩, fun h => (by cases h), by omega, fun j _ => ⟨wd_null j, wd_null j⟩⟩
theorem Win.skip {X : Nat → Nat} {k P Q lo hi : Nat} (h : Win X k P Q lo hi) (hs : sig (X k) = 0) : Win X (k + 1) P Q lo hi := by
  have e1 : tch X (k + 1) = tch X k := by show (tch X k || decide (sig (X k) ≠ 0)) = _; simp [hs]
  have e2 : loW X (k + 1) = loW X k := by show (if sig (X k) = 0 then _ else _) = _; rw [if_pos hs]
  have e3 : mxW X (k + 1) = mxW X k := by show (if sig (X k) = 0 then _ else _) = _; rw [if_pos hs]
  exact ⟨by rw [e2]; exact h.low, by rw [e1]; exact h.none, by rw [e1, e3]; exact h.some, h.high, h.out⟩
theorem Win.add {X : Nat → Nat} {k P Q lo hi P' Q' j : Nat} (h : Win X k P Q lo hi) (hs : sig (X k) ≠ 0) (h1 : qOf (X k) + 2 ≤ j) (h2 : j ≤ 34)
    (hlo : ∀ i, i < qOf (X k) → wd P' i = wd P i ∧ wd Q' i = wd Q i) (hhi : ∀ i, j ≤ i → wd P' i = wd P i ∧ wd Q' i = wd Q i) : Win X (k + 1) P' Q' (lowOf lo hi (qOf (X k))) (max hi j) := by
  have e1 : tch X (k + 1) = true := by show (tch X k || decide (sig (X k) ≠ 0)) = _; simp [hs]
  have e2 : loW X (k + 1) = if tch X k = false ∨ qOf (X k) < loW X k then qOf (X k) else loW X k := by show (if sig (X k) = 0 then _ else _) = _; rw [if_neg hs]
  have e3 : mxW X (k + 1) = if tch X k = false ∨ mxW X k < qOf (X k) then qOf (X k) else mxW X k := by show (if sig (X k) = 0 then _ else _) = _; rw [if_neg hs]
  have hz : hi = 0 ↔ tch X k = false := by
    constructor
    · intro h0
      cases ht : tch X k
      · rfl
      · have := h.some ht; omega
    · intro h0; exact (h.none h0).1
  refine ⟨?_, fun h0 => (by rw [e1] at h0; cases h0), fun _ => ?_, ?_, fun i hi' => ?_⟩
  · rw [e2]
    unfold lowOf
    by_cases h0 : hi = 0 ∨ qOf (X k) < lo
    · rw [if_pos h0, if_pos (by rw [← hz, ← h.low]; exact h0)]
    · rw [if_neg h0, if_neg (by rw [← hz, ← h.low]; exact h0), h.low]
  · rw [e3]
    have : mxW X k + 2 ≤ max hi j ∨ tch X k = false := by
      cases ht : tch X k
      · exact .inr rfl
      · have := h.some ht; left; omega
    split <;> rename_i h0
    · omega
    · have hn : ¬ tch X k = false := fun e => h0 (Or.inl e)
      rcases this with h3 | h3
      · exact h3
      · exact absurd h3 hn
  · have := h.high; omega
  · have old : i < lo ∨ hi ≤ i → wd P i = 0 ∧ wd Q i = 0 := h.out i
    have p0 : hi = 0 → wd P i = 0 ∧ wd Q i = 0 := fun e => h.out i (.inr (by omega))
    unfold lowOf at hi'
    rcases hi' with h3 | h3
    · by_cases h0 : hi = 0 ∨ qOf (X k) < lo
      · rw [if_pos h0] at h3
        rw [(hlo i h3).1, (hlo i h3).2]
        rcases h0 with h0 | h0
        · exact p0 h0
        · exact old (.inl (by omega))
      · rw [if_neg h0] at h3
        rw [(hlo i (by omega)).1, (hlo i (by omega)).2]
        exact old (.inl h3)
    · rw [(hhi i (by omega)).1, (hhi i (by omega)).2]
      exact old (.inr (by omega))

set_option exponentiation.threshold 4000 in
theorem sum_le (X : Nat → Nat) : ∀ k, (∀ i, i < k → expo (X i) ≠ 2047) → upS X k + dnS X k ≤ k * 2 ^ 2098
  | 0, _ => by simp [upS, dnS]
  | k + 1, h => by
    have ih := sum_le X k (fun i hi => h i (by omega))
    have hm := mag_lt (h k (by omega))
    show upS X k + (if sgn (X k) = 1 then 0 else mag (X k)) + (dnS X k + (if sgn (X k) = 1 then mag (X k) else 0)) ≤ _
    rw [Nat.add_mul, Nat.one_mul]
    split <;> omega
set_option exponentiation.threshold 4000 in
theorem sum_lt (X : Nat → Nat) (k L : Nat) (hk : k ≤ L) (hL : L ≤ 65536) (h : ∀ i, i < L → expo (X i) ≠ 2047) : upS X k + dnS X k < 2 ^ (64 * 34) := by
  have h1 := sum_le X k (fun i hi => h i (by omega))
  have h2 : k * 2 ^ 2098 ≤ 2 ^ 16 * 2 ^ 2098 := Nat.mul_le_mul_right _ (by omega)
  have h3 : 2 ^ 16 * 2 ^ 2098 < 2 ^ (64 * 34) := by rw [← Nat.pow_add]; exact Nat.pow_lt_pow_right (by omega) (by omega)
  omega

/-- The magnitude by its odd part. -/
theorem mag_odd {b u : Nat} (h : sig b = 2 ^ tz (sig b) * (2 * u + 1)) : mag b = (2 * u + 1) * 2 ^ atOf b := by
  have e : mag b = 2 ^ tz (sig b) * (2 * u + 1) * 2 ^ base b := by
    unfold mag
    exact congrArg (· * 2 ^ base b) h
  rw [e]
  unfold atOf
  rw [Nat.pow_add, Nat.mul_comm (2 ^ base b), ← Nat.mul_assoc, Nat.mul_comm (2 * u + 1)]
theorem mag_zero {b : Nat} (h : sig b = 0) : mag b = 0 := by unfold mag; rw [h, Nat.zero_mul]
end Go.Proofs.Qxb6608777aDoor
