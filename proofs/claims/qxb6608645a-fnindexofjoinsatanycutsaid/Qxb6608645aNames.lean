import Derived.Test.Qxb6608645aRows
import Derived.WalkKit
import Derived.WalkSpells
import Derived.WalkLawsBesides
import Derived.LoopTactic
import Derived.LoopN
import Derived.Below
namespace Go.Proofs.Qxb6608645a
open Go.RowKit

/-- What a list of strings holds: n of them, from block b, offset off on. -/
def StrAt (w : World) (b off n : Nat) (S : Nat → ByteArray) : Prop := ∀ i, i < n → w.cell? ⟨b, off + i, none⟩ = some (.string (S i)) ∧ (S i).size ≤ maxLen

/-- It returns a bool; where that is 'no', p holds; the world is as it was. -/
def Says (no : Bool) (p : Prop) (w : World) (e : Ending) (w' : World) : Prop := ∃ r : Bool, e = .returned (.bool r) ∧ (r = no → p) ∧ w = w'
theorem Says.no {no : Bool} {p : Prop} {w : World} {v : Value} (hv : v = .bool no) (h : p) : Says no p w (.returned v) w := ⟨no, by rw [hv], fun _ => h, rfl⟩
theorem Says.yes {no : Bool} {p : Prop} {w : World} {v : Value} (hv : v = .bool (!no)) : Says no p w (.returned v) w := ⟨!no, by rw [hv], fun h => by cases no <;> simp at h, rfl⟩

/-- The sizes that the first bound lets by. -/
def Small (len : Nat) (S : Nat → ByteArray) (s : ByteArray) : Prop := (∀ i, i < len → (S i).size ≤ 1048576) ∧ s.size ≤ 1048576

set_option maxHeartbeats 1000000 in
theorem bytes10_any (b off len cap : Nat) (k0 : Int) (s : ByteArray) (S : Nat → ByteArray) (w : World) (hm : len ≤ maxLen) (hs : s.size ≤ maxLen) (hI : StrAt w b off len S) :
    Calls Try.prog 10 #[.slice (some ⟨b, off, none⟩) len cap, .int .i64 k0, .string s] w (Says true (Small len S s) w) := by
  unfold maxLen at hm hs
  by_cases hl : 1048576 < len
  · go_enter Try.func10, Try.ntmps10
    go_wp2
    go_ret
    exact Says.yes rfl
  · go_enter Try.func10, Try.ntmps10
    go_wp2
    go_loop [7, 8] (fun t i => ∃ k : Nat, ∃ q : Int, Hid (∀ i, i < k → (S i).size ≤ 1048576) ∧ k ≤ len ∧ 0 ≤ q ∧ q ≤ 1048576 ∧ i = .int .i64 k ∧ t = .int .i64 q) (fun _ i => len - (intOf i).toNat)
    case atStart => exact ⟨0, _, fun i hi => absurd hi (Nat.not_lt_zero i), Nat.zero_le _, by omega, by omega, rfl, rfl⟩
    case round =>
      obtain ⟨k, q, hA, hk, hq0, hq1, rfl, rfl⟩ := hrel
      by_cases hlt : k < len
      · obtain ⟨c0, hz⟩ := hI k hlt
        unfold maxLen at hz
        go_wp2
        · go_ret
          exact Says.yes rfl
        · go_ret
          exact Says.yes rfl
        · go_round
          case rel => exact ⟨k + 1, _, fun i hi => by rcases Nat.lt_succ_iff_lt_or_eq.1 hi with h | h; exact hA.out i h; subst h; omega, by omega, by omega, by omega, by go_num, rfl⟩
          case measure => simp [intOf]; omega
      · go_wp2
        · go_ret
          exact Says.yes rfl
        · go_ret
          exact Says.yes rfl
        · go_ret
          exact Says.no rfl ⟨fun i hi => hA.out i (by omega), by omega⟩

set_option maxHeartbeats 1000000 in
theorem bytes5_any (b off len cap : Nat) (k0 : Int) (s : ByteArray) (S : Nat → ByteArray) (w : World) (hm : len ≤ maxLen) (hs : s.size ≤ maxLen) (hI : StrAt w b off len S) :
    Calls Try.prog 5 #[.slice (some ⟨b, off, none⟩) len cap, .int .i64 k0, .string s] w (Says true (Small len S s) w) := by
  unfold maxLen at hm hs
  by_cases hl : 1048576 < len
  · go_enter Try.func5, Try.ntmps5
    go_wp2
    go_ret
    exact Says.yes rfl
  · go_enter Try.func5, Try.ntmps5
    go_wp2
    go_loop [7, 8] (fun t i => ∃ k : Nat, ∃ q : Int, Hid (∀ i, i < k → (S i).size ≤ 1048576) ∧ k ≤ len ∧ 0 ≤ q ∧ q ≤ 1048576 ∧ i = .int .i64 k ∧ t = .int .i64 q) (fun _ i => len - (intOf i).toNat)
    case atStart => exact ⟨0, _, fun i hi => absurd hi (Nat.not_lt_zero i), Nat.zero_le _, by omega, by omega, rfl, rfl⟩
    case round =>
      obtain ⟨k, q, hA, hk, hq0, hq1, rfl, rfl⟩ := hrel
      by_cases hlt : k < len
      · obtain ⟨c0, hz⟩ := hI k hlt
        unfold maxLen at hz
        go_wp2
        · go_ret
          exact Says.yes rfl
        · go_ret
          exact Says.yes rfl
        · go_round
          case rel => exact ⟨k + 1, _, fun i hi => by rcases Nat.lt_succ_iff_lt_or_eq.1 hi with h | h; exact hA.out i h; subst h; omega, by omega, by omega, by omega, by go_num, rfl⟩
          case measure => simp [intOf]; omega
      · go_wp2
        · go_ret
          exact Says.yes rfl
        · go_ret
          exact Says.yes rfl
        · go_ret
          exact Says.no rfl ⟨fun i hi => hA.out i (by omega), by omega⟩

set_option maxHeartbeats 1000000 in
theorem tooBig_any (b off len cap : Nat) (s : ByteArray) (S : Nat → ByteArray) (w : World) (hm : len ≤ maxLen) (hI : StrAt w b off len S) (hS : Small len S s) :
    Calls Try.prog 6 #[.slice (some ⟨b, off, none⟩) len cap, .slice none 0 0, .int .i64 s.size] w (Says false (len ≤ 65536) w) := by
  unfold maxLen at hm
  obtain ⟨hS, hs⟩ := hS
  have HS : Hid (∀ i, i < len → (S i).size ≤ 1048576) := hS
  clear hS
  by_cases hl : 65536 < len
  · go_enter Try.func6, Try.ntmps6
    go_wp2
    go_ret
    exact Says.yes rfl
  · go_enter Try.func6, Try.ntmps6
    go_wp2
    go_loop [7, 8] (fun t i => ∃ k : Nat, ∃ q : Int, k ≤ len ∧ 0 ≤ q ∧ q ≤ 1048576 ∧ i = .int .i64 k ∧ t = .int .i64 q) (fun _ i => len - (intOf i).toNat)
    case atStart => exact ⟨0, _, Nat.zero_le _, by omega, by omega, rfl, rfl⟩
    case round =>
      obtain ⟨k, q, hk, hq0, hq1, rfl, rfl⟩ := hrel
      by_cases hlt : k < len
      · obtain ⟨c0, hz⟩ := hI k hlt
        have hz2 := HS.out k hlt
        clear hz
        go_wp2
        · go_ret
          exact Says.yes rfl
        · go_round
          case rel => exact ⟨k + 1, _, by omega, by omega, by omega, by go_num, rfl⟩
          case measure => simp [intOf]; omega
      · go_wp2
        refine wp_loop_rounds 1 ?_
        rw [rounds_succ]
        go_wp2
        go_ret
        exact Says.no rfl (by omega)

/-! ### The empty list -/
def SmallS (s : ByteArray) : Prop := s.size ≤ 1048576
set_option maxHeartbeats 1000000 in
theorem bytes10_none (a : Option Addr) (cap : Nat) (k0 : Int) (s : ByteArray) (w : World) (hs : s.size ≤ maxLen) :
    Calls Try.prog 10 #[.slice a 0 cap, .int .i64 k0, .string s] w (Says true (s.size ≤ 1048576) w) := by
  unfold maxLen at hs
  go_enter Try.func10, Try.ntmps10
  go_wp2
  refine wp_loop_rounds 1 ?_
  rw [rounds_succ]
  go_wp2
  · go_ret
    exact Says.yes rfl
  · go_ret
    exact Says.no rfl (by omega)
set_option maxHeartbeats 1000000 in
theorem bytes5_none (a : Option Addr) (cap : Nat) (k0 : Int) (s : ByteArray) (w : World) (hs : s.size ≤ maxLen) :
    Calls Try.prog 5 #[.slice a 0 cap, .int .i64 k0, .string s] w (Says true (s.size ≤ 1048576) w) := by
  unfold maxLen at hs
  go_enter Try.func5, Try.ntmps5
  go_wp2
  refine wp_loop_rounds 1 ?_
  rw [rounds_succ]
  go_wp2
  · go_ret
    exact Says.yes rfl
  · go_ret
    exact Says.no rfl (by omega)
set_option maxHeartbeats 1000000 in
theorem tooBig_none (a : Option Addr) (cap : Nat) (s : ByteArray) (w : World) (hs : s.size ≤ 1048576) :
    Calls Try.prog 6 #[.slice a 0 cap, .slice none 0 0, .int .i64 s.size] w (Says false True w) := by
  go_enter Try.func6, Try.ntmps6
  go_wp2
  refine wp_loop_rounds 1 ?_
  rw [rounds_succ]
  go_wp2
  refine wp_loop_rounds 1 ?_
  rw [rounds_succ]
  go_wp2
  go_ret
  exact Says.no rfl trivial
end Go.Proofs.Qxb6608645a
