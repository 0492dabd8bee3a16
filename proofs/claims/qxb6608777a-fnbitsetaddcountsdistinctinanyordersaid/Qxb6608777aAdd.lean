import Derived.Test.Qxb6608777aRows
import Derived.WalkKit
import Derived.WalkSpells
import Derived.WalkLawsBesides
import Derived.LoopTactic
import Derived.LoopN
import Derived.Below
import Derived.Handy
import Derived.WalkSmall
import Derived.BigQuiet
import Derived.Deep.QuietTactic
import Derived.Laws.BitsAllLaws
namespace Go.Proofs.Qxb6608777a
open Go.RowKit

/-- A proposition that no tactic looks into. -/
structure Hid (p : Prop) : Prop where
  out : p

/-- The word with bit x % 64 set as well. -/
def orBit (v x : Nat) : Nat := v ||| 2 ^ (x % 64)

theorem pow_lt (x : Nat) : 2 ^ (x % 64) < 18446744073709551616 := by
  have : 2 ^ (x % 64) < 2 ^ 64 := Nat.pow_lt_pow_right (by omega) (Nat.mod_lt x (by omega))
  omega
theorem orBit_lt {v : Nat} (x : Nat) (hv : v < 18446744073709551616) : orBit v x < 18446744073709551616 := by
  have h := Nat.or_lt_two_pow (n := 64) (x := v) (y := 2 ^ (x % 64)) (by omega) (by have := pow_lt x; omega)
  unfold orBit
  omega
theorem wrap_pow (x : Nat) : IntKind.u64.wrap (2 ^ (x % 64)) = ((2 ^ (x % 64) : Nat) : Int) := by
  have h := pow_lt x
  have e : ((2 : Int) ^ (x % 64)) = ((2 ^ (x % 64) : Nat) : Int) := by simp
  rw [e]
  clear e
  generalize (2 : Nat) ^ (x % 64) = y at h ⊢
  exact IntWalk.u64_in _ ⟨by omega, by omega⟩
theorem or_bit (v x : Nat) (hv : v < 18446744073709551616) : bits BinOp.or IntKind.u64 (v : Int) (IntKind.u64.wrap (2 ^ (x % 64))) = ((orBit v x : Nat) : Int) := by
  rw [wrap_pow, u64_or_nat v _ hv (pow_lt x)]
  rfl

set_option maxHeartbeats 1000000 in
theorem add_any (Z n c x v : Nat) (w : World) (hx : x < 65536) (hxn : x / 64 < n) (hn : n ≤ 1024) (hv : v < 18446744073709551616) (hZ : w.cell? ⟨Z, x / 64, none⟩ = some (.int .u64 v)) (hf : w.frozen? ⟨Z, x / 64, none⟩ = false) :
    Calls Try.prog 11 #[.slice (some ⟨Z, 0, none⟩) n c, .int .i64 x] w fun e w' => e = .returned (.tuple #[]) ∧ w' = (w.setCell ⟨Z, x / 64, none⟩ (.int .u64 (orBit v x : Nat))).drew := by
  have e1 : (x : Int).tdiv 64 = ((x / 64 : Nat) : Int) := by rw [Int.tdiv_eq_ediv_of_nonneg (by omega)]; omega
  have e2 : (x : Int).tmod 64 = ((x % 64 : Nat) : Int) := by rw [Int.tmod_eq_emod_of_nonneg (by omega)]; omega
  have g0 : (0 : Int) ≤ ((x / 64 : Nat) : Int) := by omega
  have g1 : ((x / 64 : Nat) : Int) < (n : Int) := by omega
  have g2 : (0 : Int) ≤ ((x % 64 : Nat) : Int) := by omega
  have g3 : ((x % 64 : Nat) : Int) < 64 := by omega
  go_enter Try.func11, Try.ntmps11
  go_wp2
  go_region
  go_end0
  exact ⟨rfl, by rw [or_bit v x hv]⟩

set_option maxHeartbeats 1000000 in
theorem zadd_any (Z n c x v : Nat) (w : World) (hx : x < 65536) (hxn : x / 64 < n) (hn : n ≤ 1024) (hv : v < 18446744073709551616) (hZ : w.cell? ⟨Z, x / 64, none⟩ = some (.int .u64 v)) (hf : w.frozen? ⟨Z, x / 64, none⟩ = false) :
    Calls Try.prog 7 #[.slice (some ⟨Z, 0, none⟩) n c, .int .i64 x] w fun e w' => e = .returned (.tuple #[]) ∧ w' = (w.setCell ⟨Z, x / 64, none⟩ (.int .u64 (orBit v x : Nat))).drew := by
  go_enter Try.func7, Try.ntmps7
  go_wp2_with fail
  refine (add_any Z n c x v w hx hxn hn hv hZ hf).mono ?_
  rintro e w1 ⟨rfl, rfl⟩
  go_wp2
  go_end0
  exact ⟨rfl, rfl⟩
end Go.Proofs.Qxb6608777a
