import Derived.Test.Qxb6608558aOk
namespace Go.Proofs.Qxb6608558a

theorem cb_anti : ∀ a b : List UInt8, Lib.compareBytes b a = -Lib.compareBytes a b
  | [], [] => rfl
  | [], _ :: _ => rfl
  | _ :: _, [] => rfl
  | x :: a, y :: b => by
    unfold Lib.compareBytes
    by_cases h1 : x < y
    · have h2 : ¬ y < x := fun h => absurd (UInt8.lt_trans h1 h) (UInt8.lt_irrefl x)
      simp [h1, h2]
    · by_cases h2 : y < x
      · simp [h1, h2]
      · simp [h1, h2, cb_anti a b]
theorem cb_trans : ∀ a b c : List UInt8, Lib.compareBytes a b < 0 → Lib.compareBytes b c < 0 → Lib.compareBytes a c < 0
  | [], [], _, h, _ => by simp [Lib.compareBytes] at h
  | [], _ :: _, [], _, h => by simp [Lib.compareBytes] at h
  | [], _ :: _, _ :: _, _, _ => by simp [Lib.compareBytes]
  | _ :: _, [], _, h, _ => by simp [Lib.compareBytes] at h
  | _ :: _, _ :: _, [], _, h => by simp [Lib.compareBytes] at h
  | x :: a, y :: b, z :: c, h1, h2 => by
    unfold Lib.compareBytes at h1 h2 ⊢
    by_cases p1 : x < y
    · by_cases p2 : y < z
      · simp [UInt8.lt_trans p1 p2]
      · by_cases p3 : z < y
        · simp [p2, p3] at h2
        · have e : y = z := UInt8.le_antisymm (UInt8.not_lt.1 p3) (UInt8.not_lt.1 p2)
          subst e; simp [p1]
    · by_cases p2 : y < x
      · simp [p1, p2] at h1
      · have e : x = y := UInt8.le_antisymm (UInt8.not_lt.1 p2) (UInt8.not_lt.1 p1)
        subst e
        by_cases p3 : x < z
        · simp [p3]
        · by_cases p4 : z < x
          · simp [p3, p4] at h2
          · have e : x = z := UInt8.le_antisymm (UInt8.not_lt.1 p4) (UInt8.not_lt.1 p3)
            subst e
            simp [UInt8.lt_irrefl] at h1 h2 ⊢
            exact cb_trans a b c h1 h2

theorem cmpI_neg_iff (a b : Int) : cmpI a b < 0 ↔ a < b := by unfold cmpI; split <;> (try split) <;> omega
theorem pmod_neg (r1 n1 : Int) (i1 : ByteArray) (r2 n2 : Int) (i2 : ByteArray) :
    pmod r1 n1 i1 r2 n2 i2 < 0 ↔ (r1 < r2 ∨ (r1 = r2 ∧ (n1 < n2 ∨ (n1 = n2 ∧ Lib.compareBytes i1.data.toList i2.data.toList < 0)))) := by
  unfold pmod
  by_cases h1 : r1 = r2
  · by_cases h2 : n1 = n2
    · simp [h1, h2]
    · subst h1; simp [h2, cmpI_neg_iff]
  · simp [h1, cmpI_neg_iff]
theorem pmod_anti (r1 n1 : Int) (i1 : ByteArray) (r2 n2 : Int) (i2 : ByteArray) : pmod r2 n2 i2 r1 n1 i1 = -pmod r1 n1 i1 r2 n2 i2 := by
  unfold pmod
  by_cases h1 : r1 = r2
  · subst h1
    by_cases h2 : n1 = n2
    · subst h2; simpa using cb_anti i1.data.toList i2.data.toList
    · have h2' : ¬ n2 = n1 := fun h => h2 h.symm
      simpa [h2, h2'] using cmpI_neg n1 n2
  · have h1' : ¬ r2 = r1 := fun h => h1 h.symm
    simpa [h1, h1'] using cmpI_neg r1 r2
theorem pmod_trans {r1 n1 : Int} {i1 : ByteArray} {r2 n2 : Int} {i2 : ByteArray} {r3 n3 : Int} {i3 : ByteArray} (h : pmod r1 n1 i1 r2 n2 i2 < 0) (k : pmod r2 n2 i2 r3 n3 i3 < 0) : pmod r1 n1 i1 r3 n3 i3 < 0 := by
  rw [pmod_neg] at h k ⊢
  have t := cb_trans i1.data.toList i2.data.toList i3.data.toList
  generalize Lib.compareBytes i1.data.toList i2.data.toList = x at h t
  generalize Lib.compareBytes i2.data.toList i3.data.toList = y at k t
  generalize Lib.compareBytes i1.data.toList i3.data.toList = z at t ⊢
  rcases h with h | ⟨h, h | ⟨h', hx⟩⟩
  · omega
  · omega
  · rcases k with k | ⟨k, k | ⟨k', ky⟩⟩
    · omega
    · omega
    · have := t hx ky; omega
theorem pmod_self (r n : Int) (i : ByteArray) : pmod r n i r n i = 0 := by simp [pmod, cb_self]

theorem cmpP_pmod (r1 x : Int) (i1 : ByteArray) (r2 y : Int) (i2 : ByteArray) :
    cmpP r1 (x % 1000000000) (x / 1000000000) i1 r2 (y % 1000000000) (y / 1000000000) i2 = pmod r1 x i1 r2 y i2 := by
  unfold cmpP orI pmod
  rw [cmpT_ns]
  by_cases h1 : r1 = r2
  · subst h1
    by_cases h2 : x = y
    · subst h2; simp [cmpI_eq]
    · simp [cmpI_eq, h2, cmpI_ne h2]
  · simp [h1, cmpI_ne h1]

/-- The elements of a checked list stand in order. -/
theorem ordered {ID : Nat → ByteArray} {HB NX : Nat → Bool} {NS : Nat → Int} {len : Nat} (h : ∀ i, i < len → OkAt ID HB NX NS i) :
    ∀ d i, i + d + 1 < len → pmod (rankIn (HB i) (NX i)) (NS i) (ID i) (rankIn (HB (i + d + 1)) (NX (i + d + 1))) (NS (i + d + 1)) (ID (i + d + 1)) < 0
  | 0, i, hi => (h (i + 1) hi).2.2 (by omega)
  | d + 1, i, hi => pmod_trans (ordered h d i (by omega)) ((h (i + (d + 1) + 1) hi).2.2 (by omega))

/-- Element i compared with element K. -/
def cmpAt (ID : Nat → ByteArray) (HB NX : Nat → Bool) (NS : Nat → Int) (K i : Nat) : Int := pmod (rankIn (HB i) (NX i)) (NS i) (ID i) (rankIn (HB K) (NX K)) (NS K) (ID K)
theorem cmpAt_lo {ID : Nat → ByteArray} {HB NX : Nat → Bool} {NS : Nat → Int} {len K : Nat} (h : ∀ i, i < len → OkAt ID HB NX NS i) (hK : K < len) (i : Nat) (hi : i < K) : cmpAt ID HB NX NS K i < 0 := by
  have := ordered h (K - i - 1) i (by omega)
  rwa [show i + (K - i - 1) + 1 = K by omega] at this
theorem cmpAt_mid (ID : Nat → ByteArray) (HB NX : Nat → Bool) (NS : Nat → Int) (K : Nat) : cmpAt ID HB NX NS K K = 0 := pmod_self _ _ _
theorem cmpAt_hi {ID : Nat → ByteArray} {HB NX : Nat → Bool} {NS : Nat → Int} {len K : Nat} (h : ∀ i, i < len → OkAt ID HB NX NS i) (i : Nat) (hi : K < i) (hl : i < len) : 0 < cmpAt ID HB NX NS K i := by
  have := ordered h (i - K - 1) K (by omega)
  rw [show K + (i - K - 1) + 1 = i by omega] at this
  unfold cmpAt
  rw [pmod_anti]
  omega
end Go.Proofs.Qxb6608558a
