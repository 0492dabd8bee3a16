import Derived.Test.Qxb6608558aBuild
import Derived.Deep.RegionWith
import Derived.BigRegion
namespace Go.Proofs.Qxb6608558a
open Go.RowKit

theorem placeX_any (id : ByteArray) (hb nx : Option Addr) (n s : Int) (w : World) :
    Calls Try.prog 16 #[stV id hb nx n s] w fun e w' => e = .returned (plV (rank hb nx) n s id) ∧ ∃ c1 c2 : Array Value, w' = (w.alloc (.cells c1 40)).alloc (.cells c2 36) := by
  cases nx with
  | some a =>
    go_enter Try.func16, Try.ntmps16
    go_wp2
    exact bodyPost_ret (v := plV 0 n s id) (by simp [results, Try.results16, go_sem]) rfl ⟨rfl, _, _, rfl⟩
  | none =>
    cases hb with
    | some a =>
      go_enter Try.func16, Try.ntmps16
      go_wp2
      exact bodyPost_ret (v := plV 1 n s id) (by simp [results, Try.results16, go_sem]) rfl ⟨rfl, _, _, rfl⟩
    | none =>
      go_enter Try.func16, Try.ntmps16
      go_wp2
      exact bodyPost_ret (v := plV 2 n s id) (by simp [results, Try.results16, go_sem]) rfl ⟨rfl, _, _, rfl⟩

set_option maxHeartbeats 2000000 in
theorem after1_any (id : ByteArray) (hb nx : Option Addr) (n s r2 n2 s2 : Int) (i2 : ByteArray) (w : World) (a0 : 0 ≤ n) (a1 : n < 1000000000) (b0 : 0 ≤ n2) (b1 : n2 < 1000000000) :
    Calls Try.prog 41 #[stV id hb nx n s, plV r2 n2 s2 i2] w fun e w' => e = .returned (.int .i64 (cmpP (rank hb nx) n s id r2 n2 s2 i2)) ∧ Below w.heap.size w w' := by
  go_enter Try.func41, Try.ntmps41
  go_wp2
  go_region_with (first
    | (go_at_call 16; refine (placeX_any _ _ _ _ _ _).mono ?_; rintro e w1 ⟨rfl, d1, d2, rfl⟩)
    | (go_at_call 18; refine (placeCompare_any _ _ _ _ _ _ _ _ _ a0 a1 b0 b1).mono ?_; rintro e w1 ⟨rfl, hB1⟩))
  all_goals
    go_wp2
    go_ret
    refine ⟨rfl, Below.trans ?_ (hB1.mono ?_)⟩
    · repeat' first | exact Below.refl _ _ | refine Below.drew ?_ | refine Below.alloc ?_ ?_ _ | exact Nat.le_refl _ | (simp only [World.size_alloc]; omega)
    · simp only [World.size_alloc, World.size_drew]; omega
end Go.Proofs.Qxb6608558a
