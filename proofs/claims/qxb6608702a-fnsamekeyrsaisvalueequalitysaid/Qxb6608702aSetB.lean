import Derived.Test.Qxb6608702aSet
namespace Go.Proofs.Qxb6608702a
open Go.RowKit

theorem digits_zero {D : Nat → Int} (hD : DByt D) {L N : Nat} (hw : ∀ k, L ≤ k → k < N → word D k = 0) (hN : ∀ t, N * 8 ≤ t → D t = 0) (t : Nat) (ht : L * 8 ≤ t) : D t = 0 := by
  by_cases h : N * 8 ≤ t
  · exact hN t h
  · have := word_zero hD (hw (t / 8) (by omega) (by omega)) (t % 8) (by omega)
    rwa [show t / 8 * 8 + t % 8 = t by omega] at this
theorem dig_beyond {A : Nat → Int} {n N : Nat} (h : n ≤ N * 8) (t : Nat) (ht : N * 8 ≤ t) : dig A n t = 0 := by unfold dig; rw [if_neg (by omega)]

/-- One byte more. -/
theorem pw_step (A : Nat → Int) (r j : Nat) (hr : r ≤ 7) (hj : j < r) (hA : ∀ i, i < r → 0 ≤ A i ∧ A i < 256) (q : Nat) (hq : q + 1 + j = r) : bits BinOp.or IntKind.u64 (pw A r j) (A q * 256 ^ j) = pw A r (j + 1) := by
  have b1 := hA (r - 1) (by omega); have b2 : r ≥ 2 → 0 ≤ A (r - 2) ∧ A (r - 2) < 256 := fun h => hA (r - 2) (by omega)
  have b3 : r ≥ 3 → 0 ≤ A (r - 3) ∧ A (r - 3) < 256 := fun h => hA (r - 3) (by omega)
  have b4 : r ≥ 4 → 0 ≤ A (r - 4) ∧ A (r - 4) < 256 := fun h => hA (r - 4) (by omega)
  have b5 : r ≥ 5 → 0 ≤ A (r - 5) ∧ A (r - 5) < 256 := fun h => hA (r - 5) (by omega)
  have b6 : r ≥ 6 → 0 ≤ A (r - 6) ∧ A (r - 6) < 256 := fun h => hA (r - 6) (by omega)
  have b7 : r ≥ 7 → 0 ≤ A (r - 7) ∧ A (r - 7) < 256 := fun h => hA (r - 7) (by omega)
  obtain rfl : q = r - (j + 1) := by omega
  match j, hj with
  | 0, _ => show bits BinOp.or IntKind.u64 0 (A (r - 1) * 1) = A (r - 1); rw [Int.mul_one, u64_or 0 (A (r - 1)) (by omega) (by omega) (by omega) (by omega)]; simp; omega
  | 1, h => have := b2 (by omega); exact u64_or8 (y := A (r - 1)) (x := A (r - 2) * 256) (by omega) (by omega) (by omega) (by omega) (by omega)
  | 2, h => have := b2 (by omega); have := b3 (by omega); exact u64_or16 (y := A (r - 1) + A (r - 2) * 256) (x := A (r - 3) * 65536) (by omega) (by omega) (by omega) (by omega) (by omega)
  | 3, h => have := b2 (by omega); have := b3 (by omega); have := b4 (by omega); exact u64_or24 (y := A (r - 1) + A (r - 2) * 256 + A (r - 3) * 65536) (x := A (r - 4) * 16777216) (by omega) (by omega) (by omega) (by omega) (by omega)
  | 4, h => have := b2 (by omega); have := b3 (by omega); have := b4 (by omega); have := b5 (by omega); exact u64_or32 (y := A (r - 1) + A (r - 2) * 256 + A (r - 3) * 65536 + A (r - 4) * 16777216) (x := A (r - 5) * 4294967296) (by omega) (by omega) (by omega) (by omega) (by omega)
  | 5, h => have := b2 (by omega); have := b3 (by omega); have := b4 (by omega); have := b5 (by omega); have := b6 (by omega); exact u64_or40 (y := A (r - 1) + A (r - 2) * 256 + A (r - 3) * 65536 + A (r - 4) * 16777216 + A (r - 5) * 4294967296) (x := A (r - 6) * 1099511627776) (by omega) (by omega) (by omega) (by omega) (by omega)
  | 6, h => have := b2 (by omega); have := b3 (by omega); have := b4 (by omega); have := b5 (by omega); have := b6 (by omega); have := b7 (by omega); exact u64_or48 (y := A (r - 1) + A (r - 2) * 256 + A (r - 3) * 65536 + A (r - 4) * 16777216 + A (r - 5) * 4294967296 + A (r - 6) * 1099511627776) (x := A (r - 7) * 281474976710656) (by omega) (by omega) (by omega) (by omega) (by omega)
  | k + 7, h => exact absurd h (by omega)

/-- It returns a nat whose words are those of the digits D. -/
def GivesNat (D : Nat → Int) (w : World) (e : Ending) (w' : World) : Prop :=
  ∃ L c, L ≤ 60000 ∧ L ≤ c ∧ e = .returned (.slice (some ⟨w.heap.size, 0, none⟩) L c) ∧ Below w.heap.size w w' ∧ w.heap.size < w'.heap.size ∧ (∀ k, k < L → w'.cell? ⟨w.heap.size, k, none⟩ = some (.int .u64 (word D k))) ∧ ∀ t, L * 8 ≤ t → D t = 0

set_option maxRecDepth 100000 in
set_option maxHeartbeats 4000000 in
theorem setBytes_some (b o n c : Nat) (A : Nat → Int) (w : World) (h1 : 1 ≤ n) (hn : n ≤ 65536) (hnc : n ≤ c) (hA : Byt n A) (hb : b < w.heap.size) (hc : ∀ i, i < n → w.cell? ⟨b, o + i, none⟩ = some (.int .u8 (A i))) :
    Calls Try.prog 20 #[.slice none 0 0, .slice (some ⟨b, o, none⟩) n c] w (GivesNat (dig A n) w) := by
  have ew := words_of n
  have HC : Hid (∀ i, i < n → w.cell? ⟨b, o + i, none⟩ = some (.int .u8 (A i))) := hc
  clear hc
  go_enter Try.func20, Try.ntmps20
  go_wp2_with fail
  refine (natMake_any ((n + 7) / 8) w (by omega) (by omega)).mono ?_
  rintro e w1 ⟨cc, hcc, rfl, rfl⟩
  clear ew
  have hN1 : (n + 7) / 8 * 8 < n + 8 := by omega
  have hN2 : n ≤ (n + 7) / 8 * 8 := by omega
  generalize (n + 7) / 8 = N at hcc hN1 hN2 ⊢
  go_wp2
  go_loopw [5, 6] (fun vi vk wr => ∃ k i : Nat, Hid (i + 8 * k = n) ∧ i ≤ n ∧ k ≤ N ∧ vi = .int .i64 i ∧ vk = .int .i64 k ∧ WB w cc k (dig A n) wr) (fun vi _ _ => (intOf vi).toNat)
  case atStart => exact ⟨0, n, by show n + 8 * 0 = n; omega, Nat.le_refl _, Nat.zero_le _, rfl, rfl, WB.start w cc (dig A n)⟩
  case round =>
    obtain ⟨k, i, hik, hin, hkN, rfl, rfl, hT⟩ := hrel
    by_cases h8 : 8 ≤ i
    · obtain ⟨m, hm⟩ : ∃ m, Hid (m + 8 = i) := ⟨i - 8, by show i - 8 + 8 = i; omega⟩
      have em : (i : Int) - 8 = (m : Int) := by have := hm.out; omega
      have hmi : m ≤ i := by have := hm.out; omega
      have hkN' : k < N := by have := hik.out; have := hm.out; omega
      have hkc : k < cc := by omega
      have hic : i ≤ c := by omega
      obtain ⟨v, c0⟩ := hT.cell k hkc
      have f0 := hT.free k
      have es : i - m = 8 := by have := hm.out; omega
      have hmc : ¬ c = m := by have := hm.out; omega
      have hbr : b < wr.heap.size := Nat.lt_of_lt_of_le hb hT.below.size
      go_wp2_with fail
      refine (beWord_any b (o + m) (c - m) (fun p => A (m + p)) wr (fun p hp => hA (m + p) (by have := hm.out; omega)) (fun p hp => by
        have := (hT.below.cell (p := ⟨b, o + (m + p), none⟩) hb).trans (HC.out (m + p) (by have := hm.out; omega))
        rw [Nat.add_assoc]; exact this)).mono ?_
      rintro e w2 ⟨rfl, nq, rfl⟩
      have ewd := word_here (A := A) (n := n) (k := k) (i := m) (by have := hm.out; have := hik.out; omega)
      simp only []
      rw [ewd]
      clear ewd es em
      have g1 : (k : Int) < (N : Int) := by omega
      go_wp2
      go_roundw
      case rel => exact ⟨k + 1, m, by show m + 8 * (k + 1) = n; have := hm.out; have := hik.out; omega, by omega, by omega, by have := hm.out; go_num, by go_num, (hT.put hkc).drewN _⟩
      case measure => simp [intOf]; have := hm.out; omega
    · have hr7 : i ≤ 7 := by omega
      by_cases hi0 : i = 0
      · subst hi0
        obtain rfl : k = N := by have := hik.out; omega
        clear h8 hr7
        go_wp2_with fail
        refine (norm_any w.heap.size k cc (word (dig A n)) wr (by omega) hcc hT.laid).mono ?_
        rintro e w2 ⟨L, hL, hz, rfl, hw⟩
        subst hw
        go_wp2
        go_ret
        exact ⟨L, cc, by omega, by omega, rfl, hT.below, hT.room, fun j hj => hT.laid j (by omega), digits_zero (dig_byt hA) hz (dig_beyond hN2)⟩
      · have hkN' : k < N := by have := hik.out; omega
        have hkN2 : N ≤ k + 1 := by have := hik.out; omega
        have hkc : k < cc := by omega
        have ipos : (0 : Int) < (i : Int) := by omega
        have hA2 : ∀ j, j < i → 0 ≤ A j ∧ A j < 256 := fun j hj => hA j (by omega)
        have HA2 : Hid (∀ j, j < i → 0 ≤ A j ∧ A j < 256) := hA2
        clear hA2
        have n8 : ¬ (8 : Int) ≤ (i : Int) := by omega
        go_wp2
        go_loop [5, 7, 8] (fun vi vd vs => ∃ j q : Nat, Hid (q + j = i) ∧ j ≤ i ∧ vi = .int .i64 q ∧ vd = .int .u64 (pw A i j) ∧ vs = .int .u64 ((8 * j : Nat) : Int)) (fun vi _ _ => (intOf vi).toNat)
        case atStart => exact ⟨0, i, rfl, Nat.zero_le _, rfl, rfl, rfl⟩
        case round =>
          obtain ⟨j, q, hqj, hji, rfl, rfl, rfl⟩ := hrel
          by_cases hq0 : q = 0
          · subst hq0
            obtain rfl : j = i := by have := hqj.out; omega
            have epw := pw_word (A := A) (n := n) (K := k) (r := j) (by have := hik.out; omega) hr7
            have eN : (N : Int) - 1 = (k : Int) := by omega
            have g1 : (k : Int) < (N : Int) := by omega
            obtain ⟨v, c0⟩ := hT.cell k hkc
            have f0 := hT.free k
            have hT2 := hT.put hkc
            have HT2 : Hid (WB w cc (k + 1) (dig A n) (wr.setCell ⟨w.heap.size, k, none⟩ (.int .u64 (word (dig A n) k)))) := hT2
            clear hT2 h8 hr7 hji
            go_wp2_with fail
            refine (norm_any w.heap.size N cc (word (dig A n)) _ (by omega) hcc (fun a ha => HT2.out.laid a (by omega))).mono ?_
            rintro e w2 ⟨L, hL, hz, rfl, hw⟩
            subst hw
            go_wp2
            go_ret
            exact ⟨L, cc, by omega, by omega, rfl, HT2.out.below, HT2.out.room, fun a ha => HT2.out.laid a (by omega), digits_zero (dig_byt hA) hz (dig_beyond hN2)⟩
          · obtain ⟨m, hm⟩ : ∃ m, Hid (m + 1 = q) := ⟨q - 1, by show q - 1 + 1 = q; omega⟩
            have em : (q : Int) - 1 = (m : Int) := by have := hm.out; omega
            have hmn : (m : Int) < (n : Int) := by have := hm.out; have := hqj.out; omega
            have c0 := (hT.below.cell (p := ⟨b, o + m, none⟩) hb).trans (HC.out m (by omega))
            have hqp : (0 : Int) < (q : Int) := by omega
            have hj7 : j < i := by have := hqj.out; omega
            obtain ⟨x0, x1⟩ := HA2.out m (by have := hm.out; have := hqj.out; omega)
            have hor := pw_step A i j hr7 hj7 HA2.out m (by have := hm.out; have := hqj.out; omega)
            have hj : j = 0 ∨ j = 1 ∨ j = 2 ∨ j = 3 ∨ j = 4 ∨ j = 5 ∨ j = 6 := by omega
            rcases hj with rfl | rfl | rfl | rfl | rfl | rfl | rfl
            · simp only [Int.pow_zero, Int.mul_one] at hor
              go_wp2
              go_round
              case rel => exact ⟨1, m, by show m + 1 = i; have := hm.out; have := hqj.out; omega, by omega, rfl, rfl, rfl⟩
              case measure => simp [intOf]; have := hm.out; omega
            · rw [show (256 : Int) ^ 1 = 256 from by decide] at hor
              go_wp2
              go_round
              case rel => exact ⟨2, m, by show m + 2 = i; have := hm.out; have := hqj.out; omega, by omega, rfl, rfl, rfl⟩
              case measure => simp [intOf]; have := hm.out; omega
            · rw [show (256 : Int) ^ 2 = 65536 from by decide] at hor
              go_wp2
              go_round
              case rel => exact ⟨3, m, by show m + 3 = i; have := hm.out; have := hqj.out; omega, by omega, rfl, rfl, rfl⟩
              case measure => simp [intOf]; have := hm.out; omega
            · rw [show (256 : Int) ^ 3 = 16777216 from by decide] at hor
              go_wp2
              go_round
              case rel => exact ⟨4, m, by show m + 4 = i; have := hm.out; have := hqj.out; omega, by omega, rfl, rfl, rfl⟩
              case measure => simp [intOf]; have := hm.out; omega
            · rw [show (256 : Int) ^ 4 = 4294967296 from by decide] at hor
              go_wp2
              go_round
              case rel => exact ⟨5, m, by show m + 5 = i; have := hm.out; have := hqj.out; omega, by omega, rfl, rfl, rfl⟩
              case measure => simp [intOf]; have := hm.out; omega
            · rw [show (256 : Int) ^ 5 = 1099511627776 from by decide] at hor
              go_wp2
              go_round
              case rel => exact ⟨6, m, by show m + 6 = i; have := hm.out; have := hqj.out; omega, by omega, rfl, rfl, rfl⟩
              case measure => simp [intOf]; have := hm.out; omega
            · rw [show (256 : Int) ^ 6 = 281474976710656 from by decide] at hor
              go_wp2
              go_round
              case rel => exact ⟨7, m, by show m + 7 = i; have := hm.out; have := hqj.out; omega, by omega, rfl, rfl, rfl⟩
              case measure => simp [intOf]; have := hm.out; omega
end Go.Proofs.Qxb6608702a
