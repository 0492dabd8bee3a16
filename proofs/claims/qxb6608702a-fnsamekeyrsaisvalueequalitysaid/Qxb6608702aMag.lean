import Derived.Test.Qxb6608702aTwo
namespace Go.Proofs.Qxb6608702a
open Go.RowKit

/-- From byte k on the row has no leading zero. -/
def Lead (A : Nat → Int) (n k : Nat) : Prop := k ≤ n ∧ (∀ j, j < k → A j = 0) ∧ (k = n ∨ A k ≠ 0)
theorem Lead.sig {A : Nat → Int} {n k : Nat} (h : Lead A n k) : Sig (dig A n) (n - k) := by
  obtain ⟨h1, h2, h3⟩ := h
  refine ⟨fun t ht => ?_, ?_⟩
  · unfold dig
    split
    · exact h2 _ (by omega)
    · rfl
  · rcases h3 with e | e
    · left; omega
    · by_cases hk : k = n
      · left; omega
      · right
        unfold dig
        rw [if_pos (by omega), show n - 1 - (n - k - 1) = k by omega]
        exact e
theorem Lead.same {A B : Nat → Int} {m n j k : Nat} (h1 : Lead A m j) (h2 : Lead B n k) : sameB (m - j) (fun i => A (j + i)) (n - k) (fun i => B (k + i)) = true ↔ ∀ t, dig A m t = dig B n t := by
  rw [← same_iff h1.sig h2.sig]
  have hr : ∀ {A : Nat → Int} {m j : Nat}, ∀ i, i < m - j → rev (dig A m) (m - j) i = A (j + i) := fun {A m j} i hi => by
    unfold rev dig
    rw [if_pos (by omega)]
    congr 1
    omega
  have : sameB (m - j) (fun i => A (j + i)) (n - k) (fun i => B (k + i)) = sameB (m - j) (rev (dig A m) (m - j)) (n - k) (rev (dig B n) (n - k)) := by
    unfold sameB
    congr 1
    apply propext
    constructor
    · rintro ⟨e, h⟩
      exact ⟨e, fun i hi => by rw [hr i hi, hr i (by omega)]; exact h i hi⟩
    · rintro ⟨e, h⟩
      exact ⟨e, fun i hi => by have := h i hi; rw [hr i hi, hr i (by omega)] at this; exact this⟩
  rw [this]

/-- It returns whether the two numbers are one, and only reads. -/
def Tells (p : Prop) (w : World) (e : Ending) (w' : World) : Prop := ∃ b : Bool, e = .returned (.bool b) ∧ (b = true ↔ p) ∧ ∃ nq, w' = w.drewN nq

theorem row_from {w : World} {b o m c j : Nat} {A : Nat → Int} (hc : m ≤ c) (l : 0 < m → b < w.heap.size) (C : ∀ i, i < m → w.cell? ⟨b, o + i, none⟩ = some (.int .u8 (A i))) : Row w (.slice (if c = j then some ⟨b, o, none⟩ else some ⟨b, o + j, none⟩) (m - j) (c - j)) (m - j) (fun i => A (j + i)) := by
  by_cases h0 : m - j = 0
  · rw [h0]
    exact Or.inl ⟨_, _, rfl, rfl⟩
  · rw [if_neg (by omega)]
    exact Or.inr ⟨b, o + j, _, rfl, l (by omega), fun i hi => by rw [Nat.add_assoc]; exact C (j + i) (by omega)⟩

theorem lead_cases (A : Nat → Int) {j m : Nat} (hj : j ≤ m) : (j < m ∧ A j = 0) ∨ (j < m ∧ A j ≠ 0) ∨ j = m := by
  by_cases h : j = m
  · exact Or.inr (Or.inr h)
  · by_cases h' : A j = 0
    · exact Or.inl ⟨by omega, h'⟩
    · exact Or.inr (Or.inl ⟨by omega, h'⟩)

set_option maxRecDepth 100000 in
set_option maxHeartbeats 4000000 in
theorem mag_ss (b1 o1 m c1 b2 o2 n c2 : Nat) (A B : Nat → Int) (w : World) (hm : m ≤ 65536) (hn : n ≤ 65536) (hc1 : m ≤ c1) (hc2 : n ≤ c2) (l1 : 0 < m → b1 < w.heap.size) (l2 : 0 < n → b2 < w.heap.size)
    (C1 : ∀ i, i < m → w.cell? ⟨b1, o1 + i, none⟩ = some (.int .u8 (A i))) (C2 : ∀ i, i < n → w.cell? ⟨b2, o2 + i, none⟩ = some (.int .u8 (B i))) :
    Calls Try.prog 11 #[.slice (some ⟨b1, o1, none⟩) m c1, .slice (some ⟨b2, o2, none⟩) n c2] w (Tells (∀ t, dig A m t = dig B n t) w) := by
  have H1 : Hid (∀ i, i < m → w.cell? ⟨b1, o1 + i, none⟩ = some (.int .u8 (A i))) := C1
  have H2 : Hid (∀ i, i < n → w.cell? ⟨b2, o2 + i, none⟩ = some (.int .u8 (B i))) := C2
  have M1 : Hid (0 < m → b1 < w.heap.size) := l1
  have M2 : Hid (0 < n → b2 < w.heap.size) := l2
  clear C1 C2 l1 l2
  go_enter Try.func11, Try.ntmps11
  go_wp2
  go_loop [5] (fun i => ∃ k : Nat, k ≤ m ∧ i = .int .i64 k ∧ Hid (∀ i, i < k → A i = 0)) (fun i => m - (intOf i).toNat)
  case atStart => exact ⟨0, Nat.zero_le _, rfl, fun i hi => absurd hi (Nat.not_lt_zero i)⟩
  case round =>
    obtain ⟨j, hj, rfl, hA⟩ := hrel
    have g1 : (0 : Int) ≤ (j : Int) := by omega
    have k1 : (j : Int) ≤ (m : Int) := by omega
    rcases lead_cases A hj with ⟨hlt, he⟩ | ⟨hlt, he⟩ | he
    · have q1 := H1.out j hlt
      have g1 : (j : Int) < (m : Int) := by omega
      have HE : Hid (A j = 0) := he
      rw [he] at q1
      clear he
      go_wp2
      go_round
      case rel => exact ⟨j + 1, by omega, by go_num, fun i hi => by rcases Nat.lt_succ_iff_lt_or_eq.1 hi with h | h; exact hA.out i h; subst h; exact HE.out⟩
      case measure => simp [intOf]; omega
    · have q1 := H1.out j hlt
      have g1 : (j : Int) < (m : Int) := by omega
      have L1 : Hid (Lead A m j) := ⟨hj, hA.out, Or.inr he⟩
      have hb' : (A j == 0) = false := by simpa using he
      clear he hA
      go_wp2
      clear q1 g1 hb' hlt
      go_loop [6] (fun i => ∃ k : Nat, k ≤ n ∧ i = .int .i64 k ∧ Hid (∀ i, i < k → B i = 0)) (fun i => n - (intOf i).toNat)
      case atStart => exact ⟨0, Nat.zero_le _, rfl, fun i hi => absurd hi (Nat.not_lt_zero i)⟩
      case round =>
        obtain ⟨k, hk, rfl, hA⟩ := hrel
        have g2 : (0 : Int) ≤ (k : Int) := by omega
        have k2 : (k : Int) ≤ (n : Int) := by omega
        rcases lead_cases B hk with ⟨hlt, he⟩ | ⟨hlt, he⟩ | he
        · have q1 := H2.out k hlt
          have g1 : (k : Int) < (n : Int) := by omega
          have HE : Hid (B k = 0) := he
          rw [he] at q1
          clear he
          go_wp2
          go_round
          case rel => exact ⟨k + 1, by omega, by go_num, fun i hi => by rcases Nat.lt_succ_iff_lt_or_eq.1 hi with h | h; exact hA.out i h; subst h; exact HE.out⟩
          case measure => simp [intOf]; omega
        · have q1 := H2.out k hlt
          have g1 : (k : Int) < (n : Int) := by omega
          have L2 : Hid (Lead B n k) := ⟨hk, hA.out, Or.inr he⟩
          have hb' : (B k == 0) = false := by simpa using he
          clear he hA
          go_wp2
          clear q1 g1 hb' hlt
          have ES := L1.out.same L2.out
          have HES : Hid (sameB (m - j) (fun i => A (j + i)) (n - k) (fun i => B (k + i)) = true ↔ ∀ t, dig A m t = dig B n t) := ES
          clear ES
          go_quiet (first | (go_at_call 7; refine Calls.quiet_of (sameBytes_any _ _ (m - j) (n - k) (fun i => A (j + i)) (fun i => B (k + i)) _ ?_ ?_ ?_ ?_); omega; omega; exact Row.drewN (row_from hc1 M1.out H1.out) _; exact Row.drewN (row_from hc2 M2.out H2.out) _))
          go_wp2
          all_goals
            go_ret
            exact ⟨_, rfl, HES.out, nq, rfl⟩
        · have L2 : Hid (Lead B n k) := ⟨hk, hA.out, Or.inl he⟩
          have g1 : ¬ ((k : Int) < (n : Int)) := by omega
          clear he hA
          go_wp2
          clear g1
          have ES := L1.out.same L2.out
          have HES : Hid (sameB (m - j) (fun i => A (j + i)) (n - k) (fun i => B (k + i)) = true ↔ ∀ t, dig A m t = dig B n t) := ES
          clear ES
          go_quiet (first | (go_at_call 7; refine Calls.quiet_of (sameBytes_any _ _ (m - j) (n - k) (fun i => A (j + i)) (fun i => B (k + i)) _ ?_ ?_ ?_ ?_); omega; omega; exact Row.drewN (row_from hc1 M1.out H1.out) _; exact Row.drewN (row_from hc2 M2.out H2.out) _))
          go_wp2
          all_goals
            go_ret
            exact ⟨_, rfl, HES.out, nq, rfl⟩
    · have L1 : Hid (Lead A m j) := ⟨hj, hA.out, Or.inl he⟩
      have g1 : ¬ ((j : Int) < (m : Int)) := by omega
      clear he hA
      go_wp2
      clear g1
      go_loop [6] (fun i => ∃ k : Nat, k ≤ n ∧ i = .int .i64 k ∧ Hid (∀ i, i < k → B i = 0)) (fun i => n - (intOf i).toNat)
      case atStart => exact ⟨0, Nat.zero_le _, rfl, fun i hi => absurd hi (Nat.not_lt_zero i)⟩
      case round =>
        obtain ⟨k, hk, rfl, hA⟩ := hrel
        have g2 : (0 : Int) ≤ (k : Int) := by omega
        have k2 : (k : Int) ≤ (n : Int) := by omega
        rcases lead_cases B hk with ⟨hlt, he⟩ | ⟨hlt, he⟩ | he
        · have q1 := H2.out k hlt
          have g1 : (k : Int) < (n : Int) := by omega
          have HE : Hid (B k = 0) := he
          rw [he] at q1
          clear he
          go_wp2
          go_round
          case rel => exact ⟨k + 1, by omega, by go_num, fun i hi => by rcases Nat.lt_succ_iff_lt_or_eq.1 hi with h | h; exact hA.out i h; subst h; exact HE.out⟩
          case measure => simp [intOf]; omega
        · have q1 := H2.out k hlt
          have g1 : (k : Int) < (n : Int) := by omega
          have L2 : Hid (Lead B n k) := ⟨hk, hA.out, Or.inr he⟩
          have hb' : (B k == 0) = false := by simpa using he
          clear he hA
          go_wp2
          clear q1 g1 hb' hlt
          have ES := L1.out.same L2.out
          have HES : Hid (sameB (m - j) (fun i => A (j + i)) (n - k) (fun i => B (k + i)) = true ↔ ∀ t, dig A m t = dig B n t) := ES
          clear ES
          go_quiet (first | (go_at_call 7; refine Calls.quiet_of (sameBytes_any _ _ (m - j) (n - k) (fun i => A (j + i)) (fun i => B (k + i)) _ ?_ ?_ ?_ ?_); omega; omega; exact Row.drewN (row_from hc1 M1.out H1.out) _; exact Row.drewN (row_from hc2 M2.out H2.out) _))
          go_wp2
          all_goals
            go_ret
            exact ⟨_, rfl, HES.out, nq, rfl⟩
        · have L2 : Hid (Lead B n k) := ⟨hk, hA.out, Or.inl he⟩
          have g1 : ¬ ((k : Int) < (n : Int)) := by omega
          clear he hA
          go_wp2
          clear g1
          have ES := L1.out.same L2.out
          have HES : Hid (sameB (m - j) (fun i => A (j + i)) (n - k) (fun i => B (k + i)) = true ↔ ∀ t, dig A m t = dig B n t) := ES
          clear ES
          go_quiet (first | (go_at_call 7; refine Calls.quiet_of (sameBytes_any _ _ (m - j) (n - k) (fun i => A (j + i)) (fun i => B (k + i)) _ ?_ ?_ ?_ ?_); omega; omega; exact Row.drewN (row_from hc1 M1.out H1.out) _; exact Row.drewN (row_from hc2 M2.out H2.out) _))
          go_wp2
          all_goals
            go_ret
            exact ⟨_, rfl, HES.out, nq, rfl⟩

set_option maxRecDepth 100000 in
set_option maxHeartbeats 4000000 in
theorem mag_sn (b1 o1 m c1 : Nat) (A B : Nat → Int) (w : World) (hm : m ≤ 65536) (hc1 : m ≤ c1) (l1 : 0 < m → b1 < w.heap.size)
    (C1 : ∀ i, i < m → w.cell? ⟨b1, o1 + i, none⟩ = some (.int .u8 (A i))) :
    Calls Try.prog 11 #[.slice (some ⟨b1, o1, none⟩) m c1, .slice none 0 0] w (Tells (∀ t, dig A m t = dig B 0 t) w) := by
  have H1 : Hid (∀ i, i < m → w.cell? ⟨b1, o1 + i, none⟩ = some (.int .u8 (A i))) := C1
  have M1 : Hid (0 < m → b1 < w.heap.size) := l1
  clear C1 l1
  go_enter Try.func11, Try.ntmps11
  go_wp2
  go_loop [5] (fun i => ∃ k : Nat, k ≤ m ∧ i = .int .i64 k ∧ Hid (∀ i, i < k → A i = 0)) (fun i => m - (intOf i).toNat)
  case atStart => exact ⟨0, Nat.zero_le _, rfl, fun i hi => absurd hi (Nat.not_lt_zero i)⟩
  case round =>
    obtain ⟨j, hj, rfl, hA⟩ := hrel
    have g1 : (0 : Int) ≤ (j : Int) := by omega
    have k1 : (j : Int) ≤ (m : Int) := by omega
    rcases lead_cases A hj with ⟨hlt, he⟩ | ⟨hlt, he⟩ | he
    · have q1 := H1.out j hlt
      have g1 : (j : Int) < (m : Int) := by omega
      have HE : Hid (A j = 0) := he
      rw [he] at q1
      clear he
      go_wp2
      go_round
      case rel => exact ⟨j + 1, by omega, by go_num, fun i hi => by rcases Nat.lt_succ_iff_lt_or_eq.1 hi with h | h; exact hA.out i h; subst h; exact HE.out⟩
      case measure => simp [intOf]; omega
    · have q1 := H1.out j hlt
      have g1 : (j : Int) < (m : Int) := by omega
      have L1 : Hid (Lead A m j) := ⟨hj, hA.out, Or.inr he⟩
      have hb' : (A j == 0) = false := by simpa using he
      clear he hA
      go_wp2
      clear q1 g1 hb' hlt
      refine wp_loop_rounds 1 ?_
      rw [rounds_succ]
      have L2 : Hid (Lead B 0 0) := ⟨Nat.le_refl _, fun i hi => absurd hi (Nat.not_lt_zero i), Or.inl rfl⟩
      go_wp2
      have ES := L1.out.same L2.out
      rw [show (fun i => B (0 + i)) = (fun i => B i) from funext fun i => by rw [Nat.zero_add]] at ES
      have HES : Hid (sameB (m - j) (fun i => A (j + i)) 0 (fun i => B i) = true ↔ ∀ t, dig A m t = dig B 0 t) := ES
      clear ES
      go_quiet (first | (go_at_call 7; refine Calls.quiet_of (sameBytes_any _ _ (m - j) 0 (fun i => A (j + i)) (fun i => B i) _ ?_ ?_ ?_ ?_); omega; omega; exact Row.drewN (row_from hc1 M1.out H1.out) _; exact Row.drewN (Or.inl ⟨_, _, rfl, rfl⟩) _))
      go_wp2
      all_goals
        go_ret
        exact ⟨_, rfl, HES.out, nq, rfl⟩
    · have L1 : Hid (Lead A m j) := ⟨hj, hA.out, Or.inl he⟩
      have g1 : ¬ ((j : Int) < (m : Int)) := by omega
      clear he hA
      go_wp2
      clear g1
      refine wp_loop_rounds 1 ?_
      rw [rounds_succ]
      have L2 : Hid (Lead B 0 0) := ⟨Nat.le_refl _, fun i hi => absurd hi (Nat.not_lt_zero i), Or.inl rfl⟩
      go_wp2
      have ES := L1.out.same L2.out
      rw [show (fun i => B (0 + i)) = (fun i => B i) from funext fun i => by rw [Nat.zero_add]] at ES
      have HES : Hid (sameB (m - j) (fun i => A (j + i)) 0 (fun i => B i) = true ↔ ∀ t, dig A m t = dig B 0 t) := ES
      clear ES
      go_quiet (first | (go_at_call 7; refine Calls.quiet_of (sameBytes_any _ _ (m - j) 0 (fun i => A (j + i)) (fun i => B i) _ ?_ ?_ ?_ ?_); omega; omega; exact Row.drewN (row_from hc1 M1.out H1.out) _; exact Row.drewN (Or.inl ⟨_, _, rfl, rfl⟩) _))
      go_wp2
      all_goals
        go_ret
        exact ⟨_, rfl, HES.out, nq, rfl⟩

set_option maxRecDepth 100000 in
set_option maxHeartbeats 4000000 in
theorem mag_ns (b2 o2 n c2 : Nat) (A B : Nat → Int) (w : World) (hn : n ≤ 65536) (hc2 : n ≤ c2) (l2 : 0 < n → b2 < w.heap.size)
    (C2 : ∀ i, i < n → w.cell? ⟨b2, o2 + i, none⟩ = some (.int .u8 (B i))) :
    Calls Try.prog 11 #[.slice none 0 0, .slice (some ⟨b2, o2, none⟩) n c2] w (Tells (∀ t, dig A 0 t = dig B n t) w) := by
  have H2 : Hid (∀ i, i < n → w.cell? ⟨b2, o2 + i, none⟩ = some (.int .u8 (B i))) := C2
  have M2 : Hid (0 < n → b2 < w.heap.size) := l2
  clear C2 l2
  go_enter Try.func11, Try.ntmps11
  go_wp2
  refine wp_loop_rounds 1 ?_
  rw [rounds_succ]
  have L1 : Hid (Lead A 0 0) := ⟨Nat.le_refl _, fun i hi => absurd hi (Nat.not_lt_zero i), Or.inl rfl⟩
  go_wp2
  go_loop [6] (fun i => ∃ k : Nat, k ≤ n ∧ i = .int .i64 k ∧ Hid (∀ i, i < k → B i = 0)) (fun i => n - (intOf i).toNat)
  case atStart => exact ⟨0, Nat.zero_le _, rfl, fun i hi => absurd hi (Nat.not_lt_zero i)⟩
  case round =>
    obtain ⟨k, hk, rfl, hA⟩ := hrel
    have g2 : (0 : Int) ≤ (k : Int) := by omega
    have k2 : (k : Int) ≤ (n : Int) := by omega
    rcases lead_cases B hk with ⟨hlt, he⟩ | ⟨hlt, he⟩ | he
    · have q1 := H2.out k hlt
      have g1 : (k : Int) < (n : Int) := by omega
      have HE : Hid (B k = 0) := he
      rw [he] at q1
      clear he
      go_wp2
      go_round
      case rel => exact ⟨k + 1, by omega, by go_num, fun i hi => by rcases Nat.lt_succ_iff_lt_or_eq.1 hi with h | h; exact hA.out i h; subst h; exact HE.out⟩
      case measure => simp [intOf]; omega
    · have q1 := H2.out k hlt
      have g1 : (k : Int) < (n : Int) := by omega
      have L2 : Hid (Lead B n k) := ⟨hk, hA.out, Or.inr he⟩
      have hb' : (B k == 0) = false := by simpa using he
      clear he hA
      go_wp2
      clear q1 g1 hb' hlt
      have ES := L1.out.same L2.out
      rw [show (fun i => A (0 + i)) = (fun i => A i) from funext fun i => by rw [Nat.zero_add]] at ES
      have HES : Hid (sameB 0 (fun i => A i) (n - k) (fun i => B (k + i)) = true ↔ ∀ t, dig A 0 t = dig B n t) := ES
      clear ES
      go_quiet (first | (go_at_call 7; refine Calls.quiet_of (sameBytes_any _ _ 0 (n - k) (fun i => A i) (fun i => B (k + i)) _ ?_ ?_ ?_ ?_); omega; omega; exact Row.drewN (Or.inl ⟨_, _, rfl, rfl⟩) _; exact Row.drewN (row_from hc2 M2.out H2.out) _))
      go_wp2
      all_goals
        go_ret
        exact ⟨_, rfl, HES.out, nq, rfl⟩
    · have L2 : Hid (Lead B n k) := ⟨hk, hA.out, Or.inl he⟩
      have g1 : ¬ ((k : Int) < (n : Int)) := by omega
      clear he hA
      go_wp2
      clear g1
      have ES := L1.out.same L2.out
      rw [show (fun i => A (0 + i)) = (fun i => A i) from funext fun i => by rw [Nat.zero_add]] at ES
      have HES : Hid (sameB 0 (fun i => A i) (n - k) (fun i => B (k + i)) = true ↔ ∀ t, dig A 0 t = dig B n t) := ES
      clear ES
      go_quiet (first | (go_at_call 7; refine Calls.quiet_of (sameBytes_any _ _ 0 (n - k) (fun i => A i) (fun i => B (k + i)) _ ?_ ?_ ?_ ?_); omega; omega; exact Row.drewN (Or.inl ⟨_, _, rfl, rfl⟩) _; exact Row.drewN (row_from hc2 M2.out H2.out) _))
      go_wp2
      all_goals
        go_ret
        exact ⟨_, rfl, HES.out, nq, rfl⟩

set_option maxRecDepth 100000 in
set_option maxHeartbeats 4000000 in
theorem mag_nn (A B : Nat → Int) (w : World) :
    Calls Try.prog 11 #[.slice none 0 0, .slice none 0 0] w (Tells (∀ t, dig A 0 t = dig B 0 t) w) := by
  go_enter Try.func11, Try.ntmps11
  go_wp2
  refine wp_loop_rounds 1 ?_
  rw [rounds_succ]
  have L1 : Hid (Lead A 0 0) := ⟨Nat.le_refl _, fun i hi => absurd hi (Nat.not_lt_zero i), Or.inl rfl⟩
  go_wp2
  refine wp_loop_rounds 1 ?_
  rw [rounds_succ]
  have L2 : Hid (Lead B 0 0) := ⟨Nat.le_refl _, fun i hi => absurd hi (Nat.not_lt_zero i), Or.inl rfl⟩
  go_wp2
  have ES := L1.out.same L2.out
  rw [show (fun i => A (0 + i)) = (fun i => A i) from funext fun i => by rw [Nat.zero_add]] at ES
  rw [show (fun i => B (0 + i)) = (fun i => B i) from funext fun i => by rw [Nat.zero_add]] at ES
  have HES : Hid (sameB 0 (fun i => A i) 0 (fun i => B i) = true ↔ ∀ t, dig A 0 t = dig B 0 t) := ES
  clear ES
  go_quiet (first | (go_at_call 7; refine Calls.quiet_of (sameBytes_any _ _ 0 0 (fun i => A i) (fun i => B i) _ ?_ ?_ ?_ ?_); omega; omega; exact Row.drewN (Or.inl ⟨_, _, rfl, rfl⟩) _; exact Row.drewN (Or.inl ⟨_, _, rfl, rfl⟩) _))
  go_wp2
  all_goals
    go_ret
    exact ⟨_, rfl, HES.out, nq, rfl⟩

/-- A slice that the law has made, or nil. -/
def Shape (w : World) (v : Value) (n : Nat) (A : Nat → Int) : Prop :=
  (v = .slice none 0 0 ∧ n = 0) ∨ ∃ b o c, v = .slice (some ⟨b, o, none⟩) n c ∧ n ≤ c ∧ (0 < n → b < w.heap.size) ∧ ∀ i, i < n → w.cell? ⟨b, o + i, none⟩ = some (.int .u8 (A i))
theorem Shape.row {w : World} {v : Value} {n : Nat} {A : Nat → Int} (h : Shape w v n A) : Row w v n A := by
  rcases h with ⟨h, e⟩ | ⟨b, o, c, h, _, hb, hc⟩
  · exact Or.inl ⟨none, 0, h, e⟩
  · by_cases h0 : n = 0
    · exact Or.inl ⟨_, _, by rw [h, h0], h0⟩
    · exact Or.inr ⟨b, o, c, h, hb (by omega), hc⟩
theorem Shape.fits {w : World} {v : Value} {n : Nat} {A : Nat → Int} (h : Shape w v n A) : Fits v := by
  intro x m d e
  rcases h with ⟨h, _⟩ | ⟨b, o, c, h, hc, _⟩
  · rw [h] at e; injection e; omega
  · rw [h] at e; injection e; omega
theorem Shape.below {w w' : World} {v : Value} {n : Nat} {A : Nat → Int} (h : Shape w v n A) {B : Nat} (hB : Below B w w') (hlt : w.heap.size ≤ B) : Shape w' v n A := by
  rcases h with h | ⟨b, o, c, h1, h2, h3, h4⟩
  · exact Or.inl h
  · exact Or.inr ⟨b, o, c, h1, h2, fun h => Nat.lt_of_lt_of_le (h3 h) hB.size, fun i hi => (hB.cell (p := ⟨b, _, none⟩) (Nat.lt_of_lt_of_le (h3 (by omega)) hlt)).trans (h4 i hi)⟩
theorem Shape.copied {w : World} {s n : Nat} {A : Nat → Int} (h : Row w (.slice (some ⟨s, 0, none⟩) n n) n A) : Shape w (.slice (some ⟨s, 0, none⟩) n n) n A := by
  refine Or.inr ⟨s, 0, n, rfl, Nat.le_refl _, ?_, ?_⟩
  · intro h0
    rcases h with ⟨_, _, _, h⟩ | ⟨b, o, c, e, hb, _⟩
    · omega
    · injection e with e1 _ _; injection e1 with e2; injection e2 with e3; omega
  · intro i hi
    rcases h with ⟨_, _, _, h⟩ | ⟨b, o, c, e, _, hc⟩
    · omega
    · injection e with e1 _ _; injection e1 with e2; injection e2 with e3 e4; subst e3; subst e4; exact hc i hi
theorem Shape.nil (w : World) (A : Nat → Int) : Shape w (.slice none 0 0) 0 A := Or.inl ⟨rfl, rfl⟩
theorem mag_any (v1 v2 : Value) (m n : Nat) (A B : Nat → Int) (w : World) (hm : m ≤ 65536) (hn : n ≤ 65536) (s1 : Shape w v1 m A) (s2 : Shape w v2 n B) :
    Calls Try.prog 11 #[v1, v2] w (Tells (∀ t, dig A m t = dig B n t) w) := by
  rcases s1 with ⟨rfl, rfl⟩ | ⟨b1, o1, c1, rfl, p1, p2, p3⟩
  · rcases s2 with ⟨rfl, rfl⟩ | ⟨b2, o2, c2, rfl, q1, q2, q3⟩
    · exact mag_nn A B w
    · exact mag_ns b2 o2 n c2 A B w hn q1 q2 q3
  · rcases s2 with ⟨rfl, rfl⟩ | ⟨b2, o2, c2, rfl, q1, q2, q3⟩
    · exact mag_sn b1 o1 m c1 A B w hm p1 p2 p3
    · exact mag_ss b1 o1 m c1 b2 o2 n c2 A B w hm hn p1 q1 p2 q2 p3 q3
end Go.Proofs.Qxb6608702a
