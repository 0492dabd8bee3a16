import Derived.Test.Qxb6608777aDoorTz
namespace Go.Proofs.Qxb6608777aDoor
open Go.RowKit

theorem ofInt_64 (a : Nat) (ha : a < 18446744073709551616) : (BitVec.ofInt 64 (a : Int)).toNat = a := by
  rw [BitVec.ofInt_natCast, BitVec.toNat_ofNat]; exact Nat.mod_eq_of_lt (by omega)
theorem or_top_i (f : Nat) (hf : f < 4503599627370496) : bits BinOp.or IntKind.i64 (f : Int) 4503599627370496 = ((f + 4503599627370496 : Nat) : Int) := by
  have e : f ||| 4503599627370496 = f + 4503599627370496 := by
    have h2 := Nat.two_pow_add_eq_or_of_lt (i := 52) (b := f) (by omega) 1
    rw [Nat.or_comm, Nat.add_comm]
    exact h2.symm
  show IntKind.i64.wrap ((BitVec.ofInt 64 (f : Int) ||| BitVec.ofInt 64 ((4503599627370496 : Nat) : Int)).toNat : Int) = _
  rw [BitVec.toNat_or, ofInt_64 f (by omega), ofInt_64 _ (by omega), e, IntKind.wrap_i64]
  omega
theorem shr_odd {x t u : Nat} (h : x = 2 ^ t * (2 * u + 1)) : (x : Int) / 2 ^ t = ((2 * u + 1 : Nat) : Int) := by
  subst h
  rw [Int.natCast_mul, Int.natCast_pow]
  exact Int.mul_ediv_cancel_left _ (by have := Int.pow_pos (n := 2) (m := t) (by omega); exact Int.ne_of_gt this)
theorem two_pow_small {x t u : Nat} (h : x = 2 ^ t * (2 * u + 1)) (hx : x < 9007199254740992) : t < 53 ∧ 2 * u + 1 < 9007199254740992 := by
  have hp : 0 < 2 ^ t := Nat.two_pow_pos t
  constructor
  · apply Nat.lt_of_not_le
    intro hc
    have h3 : 2 ^ 53 ≤ 2 ^ t := Nat.pow_le_pow_right (by omega) hc
    have h4 : 2 ^ t * 1 ≤ 2 ^ t * (2 * u + 1) := Nat.mul_le_mul_left _ (by omega)
    omega
  · have h4 : 1 * (2 * u + 1) ≤ 2 ^ t * (2 * u + 1) := Nat.mul_le_mul_right _ hp
    omega

/-- m and exp for a number that is not zero. -/
def mOf (b u : Nat) : Int := if sgn b = 1 then -((2 * u + 1 : Nat) : Int) else ((2 * u + 1 : Nat) : Int)

set_option maxHeartbeats 2000000 in
theorem wtp_zero (b : Nat) (w : World) (hb : b < 18446744073709551616) (hs : sig b = 0) :
    Calls Tryd.prog 16 #[.float .f64 b] w fun e w' => e = .returned (.tuple #[.int .i64 0, .int .i64 0]) ∧ w = w' := by
  have k := fbits
  have a1 := and_frac b hb
  have a2 := and_expo b hb
  have hf : expo b = 0 ∧ frac b = 0 := by
    unfold sig at hs
    split at hs
    · exact ⟨by assumption, hs⟩
    · omega
  rw [hf.1] at a2
  rw [hf.2] at a1
  go_enter Tryd.func16, Tryd.ntmps16
  go_wp2
  go_ret2
  exact ⟨rfl, rfl⟩

set_option maxHeartbeats 2000000 in
theorem wtp_some (b t u : Nat) (w : World) (hb : b < 18446744073709551616) (hs : sig b = 2 ^ t * (2 * u + 1)) (hT : Tab w) :
    Calls Tryd.prog 16 #[.float .f64 b] w fun e w' => e = .returned (.tuple #[.int .i64 (mOf b u), .int .i64 ((base b : Int) - 1074 + t)]) ∧ w = w' := by
  have k := fbits
  have a1 := and_frac b hb
  have a2 := and_expo b hb
  have l1 := expo_lt b
  have l2 := frac_lt b
  have l3 := sig_lt b
  have e4 := shr_odd hs
  obtain ⟨ht, hu⟩ := two_pow_small hs l3
  have hpos : 0 < sig b := by rw [hs]; exact Nat.mul_pos (Nat.two_pow_pos t) (by omega)
  have TZ : Hid (Calls Tryd.prog 18 #[.int .u64 (sig b : Nat)] w fun e w' => e = .returned (.int .i64 t) ∧ w = w') := ⟨by rw [hs]; exact tz_any t u w (by omega) (by omega) hT⟩
  have hsg : sgn b = 0 ∨ sgn b = 1 := by unfold sgn; omega
  have s1 : (b : Int) / 9223372036854775808 = (sgn b : Int) := by unfold sgn; omega
  clear hs hT
  by_cases h0 : expo b = 0
  · have e5 : sig b = frac b := by unfold sig; rw [if_pos h0]
    have e6 : base b = 0 := by unfold base; omega
    rw [e5] at e4 l3 hpos TZ
    rw [e6]
    rw [h0] at a2
    clear e5 e6 l1
    generalize frac b = F at *
    rcases hsg with h1 | h1
    · have M : Hid (mOf b u = ((2 * u + 1 : Nat) : Int)) := ⟨by unfold mOf; rw [if_neg (by omega)]⟩
      rw [h1] at s1
      go_enter Tryd.func16, Tryd.ntmps16
      go_wp2_with (go_at_call 18; refine TZ.out.mono ?_; rintro e w' ⟨rfl, rfl⟩)
      go_ret2
      exact ⟨by rw [M.out]; rfl, rfl⟩
    · have M : Hid (mOf b u = -((2 * u + 1 : Nat) : Int)) := ⟨by unfold mOf; rw [if_pos (by omega)]⟩
      rw [h1] at s1
      go_enter Tryd.func16, Tryd.ntmps16
      go_wp2_with (go_at_call 18; refine TZ.out.mono ?_; rintro e w' ⟨rfl, rfl⟩)
      go_ret2
      exact ⟨by rw [M.out]; rfl, rfl⟩
  · have a3 := or_top_i (frac b) l2
    have e5 : sig b = frac b + 4503599627370496 := by unfold sig; rw [if_neg h0]
    have e6 : (base b : Int) = (expo b : Int) - 1 := by unfold base; omega
    rw [← e5] at a3
    rw [e6]
    clear e5 e6
    generalize sig b = G at *
    generalize frac b = F at *
    generalize expo b = E at *
    rw [show ((E : Int) - 1 - 1074) = (E : Int) - 1075 by omega]
    rcases hsg with h1 | h1
    · have M : Hid (mOf b u = ((2 * u + 1 : Nat) : Int)) := ⟨by unfold mOf; rw [if_neg (by omega)]⟩
      rw [h1] at s1
      go_enter Tryd.func16, Tryd.ntmps16
      go_wp2_with (go_at_call 18; refine TZ.out.mono ?_; rintro e w' ⟨rfl, rfl⟩)
      go_ret2
      exact ⟨by rw [M.out]; rfl, rfl⟩
    · have M : Hid (mOf b u = -((2 * u + 1 : Nat) : Int)) := ⟨by unfold mOf; rw [if_pos (by omega)]⟩
      rw [h1] at s1
      go_enter Tryd.func16, Tryd.ntmps16
      go_wp2_with (go_at_call 18; refine TZ.out.mono ?_; rintro e w' ⟨rfl, rfl⟩)
      go_ret2
      exact ⟨by rw [M.out]; rfl, rfl⟩
end Go.Proofs.Qxb6608777aDoor
