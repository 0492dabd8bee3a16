import Derived.Test.Qxb6608777aDoorRows
import Derived.WalkKit
import Derived.WalkSpells
import Derived.WalkLawsBesides
import Derived.LoopTactic
import Derived.LoopN
import Derived.Below
import Derived.Handy
import Derived.WalkSmall
import Derived.BigQuiet
import Derived.Deep.QuietTactic
import Derived.Laws.BitsAllLaws
namespace Go.Proofs.Qxb6608777aDoor
open Go.RowKit

/-- A proposition that no tactic looks into. -/
structure Hid (p : Prop) : Prop where
  out : p

/-- The fields of a float64: fraction, exponent, sign. -/
def frac (b : Nat) : Nat := b % 4503599627370496
def expo (b : Nat) : Nat := b / 4503599627370496 % 2048
def sgn (b : Nat) : Nat := b / 9223372036854775808
/-- The significand, and the place of its lowest bit. -/
def sig (b : Nat) : Nat := if expo b = 0 then frac b else frac b + 4503599627370496
def base (b : Nat) : Nat := expo b - 1
theorem frac_lt (b : Nat) : frac b < 4503599627370496 := Nat.mod_lt _ (by omega)
theorem expo_lt (b : Nat) : expo b < 2048 := Nat.mod_lt _ (by omega)
theorem sig_lt (b : Nat) : sig b < 9007199254740992 := by have := frac_lt b; unfold sig; split <;> omega

theorem and_frac (b : Nat) (hb : b < 18446744073709551616) : bits BinOp.and IntKind.u64 (b : Int) 4503599627370495 = (frac b : Int) := by
  have h := u64_and_nat b 4503599627370495 hb (by omega)
  rw [show (4503599627370495 : Nat) = 2 ^ 52 - 1 by decide, Nat.and_two_pow_sub_one_eq_mod] at h
  exact h
theorem and_expo (b : Nat) (hb : b < 18446744073709551616) : bits BinOp.and IntKind.u64 ((b : Int) / 4503599627370496) 2047 = (expo b : Int) := by
  have h := u64_and_nat (b / 4503599627370496) 2047 (by omega) (by omega)
  rw [show (2047 : Nat) = 2 ^ 11 - 1 by decide, Nat.and_two_pow_sub_one_eq_mod] at h
  exact h
theorem or_top (f : Nat) (hf : f < 4503599627370496) : bits BinOp.or IntKind.u64 (f : Int) 4503599627370496 = ((f + 4503599627370496 : Nat) : Int) := by
  have h := u64_or_nat f 4503599627370496 (by omega) (by omega)
  have e : f ||| 4503599627370496 = f + 4503599627370496 := by
    have h2 := Nat.two_pow_add_eq_or_of_lt (i := 52) (b := f) (by omega) 1
    rw [Nat.or_comm, Nat.add_comm]
    exact h2.symm
  rw [e] at h
  exact h
theorem fbits (b : Nat) (w : World) : (callFunc 9 #[.float .f64 b]).run Tryd.prog w = .ok (.value (.int .u64 b)) w := by kernel_rfl

set_option maxHeartbeats 1000000 in
theorem lsBits_any (b : Nat) (w : World) (hb : b < 18446744073709551616) :
    Calls Tryd.prog 14 #[.float .f64 b] w fun e w' => e = .returned (.tuple #[.int .u64 (sig b : Nat), .int .i64 (base b : Nat)]) ∧ w = w' := by
  have k := fbits
  have a1 := and_frac b hb
  have a2 := and_expo b hb
  have a3 := or_top (frac b) (frac_lt b)
  have l1 := expo_lt b
  by_cases h0 : expo b = 0
  · have H : Hid (sig b = frac b ∧ base b = 0) := ⟨by unfold sig base; simp [h0]⟩
    go_enter Tryd.func14, Tryd.ntmps14
    go_wp2
    go_ret2
    exact ⟨by rw [H.out.1, H.out.2]; rfl, rfl⟩
  · have H : Hid (sig b = frac b + 4503599627370496 ∧ (base b : Int) = (expo b : Int) - 1) := ⟨by unfold sig base; simp [h0]; omega⟩
    go_enter Tryd.func14, Tryd.ntmps14
    go_wp2
    go_ret2
    exact ⟨by rw [H.out.1, H.out.2, Int.natCast_add]; rfl, rfl⟩
end Go.Proofs.Qxb6608777aDoor
