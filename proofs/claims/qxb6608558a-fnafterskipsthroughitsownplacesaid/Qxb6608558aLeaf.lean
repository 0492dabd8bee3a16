import Derived.Test.Qxb6608558aRows
import Derived.WalkKit
import Derived.WalkSpells
import Derived.WalkLawsBesides
import Derived.RowKit3
import Derived.Lib.Bytealg
import Derived.BigQuiet
import Derived.Deep.QuietTactic
namespace Go.Proofs.Qxb6608558a
open Go.RowKit

/-- The comparison of two numbers. -/
def cmpI (a b : Int) : Int := if a < b then -1 else if b < a then 1 else 0

theorem cmpI_lt {a b : Int} (h : a < b) : cmpI a b = -1 := by simp [cmpI, h]
theorem cmpI_gt {a b : Int} (h : b < a) : cmpI a b = 1 := by unfold cmpI; rw [if_neg (by omega), if_pos h]
theorem cmpI_eq (a : Int) : cmpI a a = 0 := by simp [cmpI]

theorem isNaN_any (a : Int) (w : World) :
    Calls Try.prog 43 #[.int .i64 a] w fun e w' => e = .returned (.bool false) ∧ w' = w := by
  go_enter Try.func43, Try.ntmps43
  go_wp2
  go_ret
  exact ⟨by simp, rfl⟩

theorem zzCmpInt_any (a b : Int) (w : World) :
    Calls Try.prog 17 #[.int .i64 a, .int .i64 b] w fun e w' => e = .returned (.int .i64 (cmpI a b)) ∧ w' = w := by
  rcases Int.lt_trichotomy a b with h | h | h
  · rw [cmpI_lt h]
    go_enter Try.func17, Try.ntmps17
    go_wp2
    go_ret
    exact ⟨rfl, rfl⟩
  · subst h; rw [cmpI_eq]
    go_enter Try.func17, Try.ntmps17
    go_wp2
    go_ret
    exact ⟨rfl, rfl⟩
  · rw [cmpI_gt h]
    have h' : ¬ a < b := by omega
    go_enter Try.func17, Try.ntmps17
    go_wp2
    go_ret
    exact ⟨rfl, rfl⟩

theorem zzCmpI64_any (a b : Int) (w : World) :
    Calls Try.prog 19 #[.int .i64 a, .int .i64 b] w fun e w' => e = .returned (.int .i64 (cmpI a b)) ∧ w' = w := by
  rcases Int.lt_trichotomy a b with h | h | h
  · rw [cmpI_lt h]
    go_enter Try.func19, Try.ntmps19
    go_wp2
    go_ret
    exact ⟨rfl, rfl⟩
  · subst h; rw [cmpI_eq]
    go_enter Try.func19, Try.ntmps19
    go_wp2
    go_ret
    exact ⟨rfl, rfl⟩
  · rw [cmpI_gt h]
    have h' : ¬ a < b := by omega
    go_enter Try.func19, Try.ntmps19
    go_wp2
    go_ret
    exact ⟨rfl, rfl⟩

theorem cmpCompare_any (a b : Int) (w : World) :
    Calls Try.prog 34 #[.int .i64 a, .int .i64 b] w fun e w' => e = .returned (.int .i64 (cmpI a b)) ∧ w' = w := by
  rcases Int.lt_trichotomy a b with h | h | h
  · rw [cmpI_lt h]
    go_enter Try.func34, Try.ntmps34
    go_wp2_with (go_at_call 43; refine (isNaN_any _ _).mono ?_; rintro e w' ⟨rfl, rfl⟩)
    go_ret
    exact ⟨rfl, rfl⟩
  · subst h; rw [cmpI_eq]
    go_enter Try.func34, Try.ntmps34
    go_wp2_with (go_at_call 43; refine (isNaN_any _ _).mono ?_; rintro e w' ⟨rfl, rfl⟩)
    go_ret
    exact ⟨rfl, rfl⟩
  · rw [cmpI_gt h]
    have h' : ¬ a < b := by omega
    go_enter Try.func34, Try.ntmps34
    go_wp2_with (go_at_call 43; refine (isNaN_any _ _).mono ?_; rintro e w' ⟨rfl, rfl⟩)
    go_ret
    exact ⟨rfl, rfl⟩

theorem cmpString_any (a b : ByteArray) (w : World) :
    Calls Try.prog 47 #[.string a, .string b] w fun e w' => e = .returned (.int .i64 (Lib.compareBytes a.data.toList b.data.toList)) ∧ w' = w := by
  go_enter Try.func47, Try.ntmps47
  go_wp2
  rw [run_callFunc_extern Try.func51 (by kernel_rfl) (by kernel_rfl) (by kernel_rfl) (e := Extern.BytealgCompare.compare) (by kernel_rfl), Lib.run_compareString]
  simp only [Result.andThen]
  rw [Oper.upon_value]
  go_wp2
  go_ret
  exact ⟨rfl, rfl⟩

theorem stringsCompare_any (a b : ByteArray) (w : World) :
    Calls Try.prog 36 #[.string a, .string b] w fun e w' => e = .returned (.int .i64 (Lib.compareBytes a.data.toList b.data.toList)) ∧ w' = w := by
  go_enter Try.func36, Try.ntmps36
  go_wp2_with (go_at_call 47; refine (cmpString_any _ _ _).mono ?_; rintro e w' ⟨rfl, rfl⟩)
  go_ret
  exact ⟨rfl, rfl⟩
end Go.Proofs.Qxb6608558a
