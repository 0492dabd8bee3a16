import Derived.Test.Qxb6608777aDoorFrame
import Derived.Test.Qxb6608777aDoorWtp
namespace Go.Proofs.Qxb6608777aDoor
open Go.RowKit

/-- How often two divides. -/
noncomputable def tz (x : Nat) : Nat := if h : 0 < x then Classical.choose (split_two x h) else 0
theorem tz_spec {x : Nat} (h : 0 < x) : ∃ u, x = 2 ^ tz x * (2 * u + 1) := by
  unfold tz
  rw [dif_pos h]
  exact Classical.choose_spec (split_two x h)
theorem low_false {x t u i : Nat} (h : x = 2 ^ t * (2 * u + 1)) (hi : i < t) : x.testBit i = false := by
  rw [h, Nat.testBit_two_pow_mul]; simp; omega
theorem low_true {x t u : Nat} (h : x = 2 ^ t * (2 * u + 1)) : x.testBit t = true := by
  rw [h, Nat.testBit_two_pow_mul]; simp
/-- The place of a float's lowest bit. -/
noncomputable def atOf (b : Nat) : Nat := base b + tz (sig b)

set_option maxRecDepth 100000 in
set_option maxHeartbeats 2000000 in
theorem lowest_none (b : Nat) (w : World) (hb : b < 18446744073709551616) (hs : sig b = 0) :
    Calls Tryd.prog 15 #[.float .f64 b] w fun e w' => e = .returned (.tuple #[.int .i64 0, .bool false]) ∧ w = w' := by
  have HL : Hid (Calls Tryd.prog 14 #[.float .f64 b] w fun e w' => e = .returned (.tuple #[.int .u64 (sig b : Nat), .int .i64 (base b : Nat)]) ∧ w = w') := ⟨lsBits_any b w hb⟩
  have l0 : base b ≤ 2046 := by have := expo_lt b; unfold base; omega
  rw [hs] at HL
  clear hs hb
  go_enter Tryd.func15, Tryd.ntmps15
  go_wp2_with (go_at_call 14; refine HL.out.mono ?_; rintro e w' ⟨rfl, rfl⟩)
  go_loop [6] (fun i => ∃ k : Nat, k ≤ 53 ∧ i = .int .i64 k) (fun i => 53 - (intOf i).toNat)
  case atStart => exact ⟨0, Nat.zero_le _, rfl⟩
  case round =>
    obtain ⟨k, hk, rfl⟩ := hrel
    by_cases hlt : k < 53
    · have ht := bit_test 0 k (by omega)
      rw [Nat.zero_testBit] at ht
      have k0 : (0 : Int) ≤ (k : Int) := by omega
      have k1 : (k : Int) < 64 := by omega
      go_wp2
      go_round
      case rel => exact ⟨k + 1, by omega, by go_num⟩
      case measure => simp [intOf]; omega
    · obtain rfl : k = 53 := by omega
      go_wp2
      go_ret2
      exact ⟨rfl, rfl⟩

set_option maxRecDepth 100000 in
set_option maxHeartbeats 2000000 in
theorem lowest_some (b : Nat) (w : World) (hb : b < 18446744073709551616) (hs : 0 < sig b) :
    Calls Tryd.prog 15 #[.float .f64 b] w fun e w' => e = .returned (.tuple #[.int .i64 (atOf b : Nat), .bool true]) ∧ w = w' := by
  have HL : Hid (Calls Tryd.prog 14 #[.float .f64 b] w fun e w' => e = .returned (.tuple #[.int .u64 (sig b : Nat), .int .i64 (base b : Nat)]) ∧ w = w') := ⟨lsBits_any b w hb⟩
  have l0 : base b ≤ 2046 := by have := expo_lt b; unfold base; omega
  have hsig := sig_lt b
  obtain ⟨u, hu⟩ := tz_spec hs
  obtain ⟨t, et⟩ : ∃ t, t = tz (sig b) := ⟨_, rfl⟩
  have HA : Hid (atOf b = base b + t) := ⟨by unfold atOf; rw [et]⟩
  rw [← et] at hu
  have HU : Hid (sig b = 2 ^ t * (2 * u + 1)) := ⟨hu⟩
  have h53 := (two_pow_small hu hsig).1
  clear hs hb hu et
  go_enter Tryd.func15, Tryd.ntmps15
  go_wp2_with (go_at_call 14; refine HL.out.mono ?_; rintro e w' ⟨rfl, rfl⟩)
  go_loop [6] (fun i => ∃ k : Nat, k ≤ t ∧ i = .int .i64 k) (fun i => 53 - (intOf i).toNat)
  case atStart => exact ⟨0, Nat.zero_le _, rfl⟩
  case round =>
    obtain ⟨k, hk, rfl⟩ := hrel
    have ht := bit_test (sig b) k (by omega)
    have k0 : (0 : Int) ≤ (k : Int) := by omega
    have k1 : (k : Int) < 64 := by omega
    have k2 : (k : Int) < 53 := by omega
    by_cases hlt : k < t
    · rw [low_false HU.out hlt] at ht
      go_wp2
      go_round
      case rel => exact ⟨k + 1, by omega, by go_num⟩
      case measure => simp [intOf]; omega
    · obtain rfl : k = t := by omega
      rw [low_true HU.out] at ht
      go_wp2
      go_ret2
      exact ⟨by rw [HA.out, Int.natCast_add]; rfl, rfl⟩
end Go.Proofs.Qxb6608777aDoor
