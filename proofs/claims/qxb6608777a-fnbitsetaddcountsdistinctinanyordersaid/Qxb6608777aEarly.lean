import Derived.Test.Qxb6608777aCnt
namespace Go.Proofs.Qxb6608777a
open Go.RowKit

set_option maxHeartbeats 1000000 in
theorem bytes_yes (s : Int) (x : Option Addr) (L c : Nat) (w : World) (hL : L ≤ 65536) :
    Calls Try.prog 5 #[.int .i64 s, .slice x L c] w fun e w' => e = .returned (.bool true) ∧ w = w' := by
  go_enter Try.func5, Try.ntmps5
  go_wp2
  go_ret
  exact ⟨rfl, rfl⟩

set_option maxRecDepth 100000 in
set_option maxHeartbeats 4000000 in
theorem law_early (s : Int) (x : Option Addr) (L c : Nat) (w : World) (hL : L ≤ maxLen) (h : 65536 < L ∨ s < 0 ∨ 65536 < s) :
    Calls Try.prog 3 #[.int .i64 s, .slice x L c] w fun e w' => e = .returned (.bool true) ∧ Below w.heap.size w w' := by
  unfold maxLen at hL
  by_cases h1 : 1048576 < L
  · go_enter Try.func3, Try.ntmps3
    go_wp2
    go_ret
    exact ⟨rfl, Below.refl _ _⟩
  by_cases h4 : 65536 < L
  · go_enter Try.func3, Try.ntmps3
    go_wp2
    go_ret
    exact ⟨rfl, Below.refl _ _⟩
  by_cases h2 : s < 0
  · go_enter Try.func3, Try.ntmps3
    go_wp2
    go_ret
    exact ⟨rfl, Below.refl _ _⟩
  · have h3 : 65536 < s := by omega
    go_enter Try.func3, Try.ntmps3
    go_wp2
    go_ret
    exact ⟨rfl, Below.refl _ _⟩

set_option maxRecDepth 100000 in
set_option maxHeartbeats 4000000 in
/-- Number b is the first that does not lie below the size. -/
theorem law_bad (s : Nat) (p : Addr) (L c b : Nat) (X : Nat → Int) (w : World) (hs : s ≤ 65536) (hL : L ≤ 65536) (hX : ∀ i, i < L → w.cell? (p.add i) = some (.int .i64 (X i))) (hb : b < L) (hbad : X b < 0 ∨ (s : Int) ≤ X b) (hok : ∀ t, t < b → 0 ≤ X t ∧ X t < s) :
    Calls Try.prog 3 #[.int .i64 (s : Int), .slice (some p) L c] w fun e w' => e = .returned (.bool true) ∧ Below w.heap.size w w' := by
  have HX : Hid (∀ i, i < L → w.cell? (p.add i) = some (.int .i64 (X i))) := ⟨hX⟩
  have HO : Hid (∀ t, t < b → 0 ≤ X t ∧ X t < s) := ⟨hok⟩
  clear hX hok
  go_enter Try.func3, Try.ntmps3
  go_wp2_with (go_at_call 5; refine (bytes_yes _ _ _ _ _ hL).mono ?_; rintro e w' ⟨rfl, hw⟩; subst hw)
  go_loop [5] (fun i => ∃ k : Nat, k ≤ b ∧ i = .int .i64 k) (fun i => b - (intOf i).toNat)
  case atStart => exact ⟨0, Nat.zero_le _, rfl⟩
  case round =>
    obtain ⟨k, hk, rfl⟩ := hrel
    have hkL : k < L := by omega
    have q1 := HX.out k hkL
    have g0 : (0 : Int) ≤ (k : Int) := by omega
    have g1 : (k : Int) < (L : Int) := by omega
    by_cases e : k = b
    · subst e
      by_cases h0 : X k < 0
      · go_wp2
        go_ret
        exact ⟨rfl, Below.refl _ _⟩
      · have h1 : (s : Int) ≤ X k := by omega
        clear hbad
        go_wp2
        go_ret
        exact ⟨rfl, Below.refl _ _⟩
    · obtain ⟨h0, h1⟩ := HO.out k (by omega)
      clear hbad
      have h0' : ¬ X k < 0 := by omega
      have h1' : ¬ (s : Int) ≤ X k := by omega
      go_wp2
      go_round
      case rel => exact ⟨k + 1, by omega, by go_num⟩
      case measure => simp [intOf]; omega
end Go.Proofs.Qxb6608777a
