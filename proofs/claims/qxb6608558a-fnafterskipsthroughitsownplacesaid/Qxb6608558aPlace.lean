import Derived.Test.Qxb6608558aStat
import Derived.Deep.RegionHeld3
import Derived.Deep.RegionWith
import Derived.LoopN
namespace Go.Proofs.Qxb6608558a
open Go.RowKit
def orI (x y z : Int) : Int := if x ≠ 0 then x else if y ≠ 0 then y else z
set_option maxHeartbeats 1000000 in
theorem or_any (x y z : Int) (b : Nat) (w : World) (c0 : w.cell? ⟨b, 0, none⟩ = some (.int .i64 x)) (c1 : w.cell? ⟨b, 1, none⟩ = some (.int .i64 y)) (c2 : w.cell? ⟨b, 2, none⟩ = some (.int .i64 z)) :
    Calls Try.prog 33 #[.slice (some ⟨b, 0, none⟩) 3 3] w fun e w' => e = .returned (.int .i64 (orI x y z)) ∧ w' = w := by
  by_cases hx : x = 0
  · by_cases hy : y = 0
    · by_cases hz : z = 0
      · subst hx hy hz
        go_enter Try.func33, Try.ntmps33
        go_wp2
        refine wp_loop_rounds 4 ?_
        repeat any_goals (rw [rounds_succ]; go_wp2)
        go_ret
        exact ⟨rfl, rfl⟩
      · have e : orI x y z = z := by simp [orI, hx, hy]
        rw [e]
        subst hx hy
        have h1 : (z == 0) = false := by simpa using hz
        go_enter Try.func33, Try.ntmps33
        go_wp2
        refine wp_loop_rounds 4 ?_
        repeat any_goals (rw [rounds_succ]; go_wp2)
        go_ret
        exact ⟨rfl, rfl⟩
    · have e : orI x y z = y := by simp [orI, hx, hy]
      rw [e]
      subst hx
      have h1 : (y == 0) = false := by simpa using hy
      go_enter Try.func33, Try.ntmps33
      go_wp2
      refine wp_loop_rounds 4 ?_
      repeat any_goals (rw [rounds_succ]; go_wp2)
      go_ret
      exact ⟨rfl, rfl⟩
  · have e : orI x y z = x := by simp [orI, hx]
    rw [e]
    have h1 : (x == 0) = false := by simpa using hx
    go_enter Try.func33, Try.ntmps33
    go_wp2
    refine wp_loop_rounds 4 ?_
    repeat any_goals (rw [rounds_succ]; go_wp2)
    go_ret
    exact ⟨rfl, rfl⟩

/-- Two places, compared: rank, then instant, then id. -/
def cmpP (r1 n1 s1 : Int) (i1 : ByteArray) (r2 n2 s2 : Int) (i2 : ByteArray) : Int :=
  orI (cmpI r1 r2) (cmpT n1 s1 n2 s2) (Lib.compareBytes i1.data.toList i2.data.toList)

set_option maxHeartbeats 2000000 in
theorem placeCompare_any (r1 n1 s1 : Int) (i1 : ByteArray) (r2 n2 s2 : Int) (i2 : ByteArray) (w : World) (a0 : 0 ≤ n1) (a1 : n1 < 1000000000) (b0 : 0 ≤ n2) (b1 : n2 < 1000000000) :
    Calls Try.prog 18 #[plV r1 n1 s1 i1, plV r2 n2 s2 i2] w
      fun e w' => e = .returned (.int .i64 (cmpP r1 n1 s1 i1 r2 n2 s2 i2)) ∧ Below w.heap.size w w' := by
  go_enter Try.func18, Try.ntmps18
  go_wp2
  go_region_held3 (fun w' => w'.cell? ⟨w.heap.size, 0, none⟩ = some (.int .i64 r1) ∧ w'.cell? ⟨w.heap.size, 1, none⟩ = some (.int .u64 n1) ∧ w'.cell? ⟨w.heap.size, 2, none⟩ = some (.int .i64 s1) ∧ w'.cell? ⟨w.heap.size, 3, none⟩ = some (.pointer none) ∧ w'.cell? ⟨w.heap.size, 4, none⟩ = some (.string i1)
      ∧ w'.cell? ⟨w.heap.size + 1, 0, none⟩ = some (.int .i64 r2) ∧ w'.cell? ⟨w.heap.size + 1, 1, none⟩ = some (.int .u64 n2) ∧ w'.cell? ⟨w.heap.size + 1, 2, none⟩ = some (.int .i64 s2) ∧ w'.cell? ⟨w.heap.size + 1, 3, none⟩ = some (.pointer none) ∧ w'.cell? ⟨w.heap.size + 1, 4, none⟩ = some (.string i2))
    (simp [go_sem, World.cell?_alloc_past])
    (first
      | (go_at_call 34; refine (cmpCompare_any _ _ _).mono ?_; rintro e w' ⟨rfl, rfl⟩)
      | (go_at_call 35; refine (timeCompare_any _ _ _ _ _ a0 a1 b0 b1).mono ?_; rintro e w' ⟨rfl, rfl⟩)
      | (go_at_call 36; refine (stringsCompare_any _ _ _).mono ?_; rintro e w' ⟨rfl, rfl⟩)
      | (go_at_call 33; refine (or_any (cmpI r1 r2) (cmpT n1 s1 n2 s2) (Lib.compareBytes i1.data.toList i2.data.toList) _ _ ?_ ?_ ?_).mono ?_; simp [go_sem]; simp [go_sem]; simp [go_sem]; rintro e w' ⟨rfl, rfl⟩))
  go_wp2
  go_ret
  refine ⟨rfl, Below.drew ?_⟩
  refine Below.alloc (Below.alloc (Below.alloc (Below.alloc (Below.alloc (Below.refl _ _) ?_ _) ?_ _) ?_ _) ?_ _) ?_ _ <;> first | exact Nat.le_refl _ | (simp only [World.size_alloc]; omega)
end Go.Proofs.Qxb6608558a
