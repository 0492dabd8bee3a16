import Derived.Test.Qxb6608777aDoorPlain
import Derived.Laws.FloatArith
namespace Go.Proofs.Qxb6608777aDoor
open Go.RowKit

theorem read_fin (b : Nat) (he : expo b ≠ 2047) : ∃ s m e, Ieee.double.read b = .number s m e := by
  unfold expo at he
  unfold Ieee.Format.read
  simp only [show Ieee.double.signWeight = 9223372036854775808 from rfl, show Ieee.double.binade = 4503599627370496 from rfl, show Ieee.double.infRung = 9218868437227405312 from rfl]
  split
  · exact ⟨_, _, _, rfl⟩
  · rw [if_pos (by omega)]
    exact ⟨_, _, _, rfl⟩
theorem read_inf (b : Nat) (he : expo b = 2047) : (∃ s, Ieee.double.read b = .infinity s) ∨ ∃ s f, Ieee.double.read b = .nan s f := by
  unfold expo at he
  unfold Ieee.Format.read
  simp only [show Ieee.double.signWeight = 9223372036854775808 from rfl, show Ieee.double.binade = 4503599627370496 from rfl, show Ieee.double.infRung = 9218868437227405312 from rfl]
  rw [if_neg (by omega), if_neg (by omega)]
  split
  · exact .inl ⟨_, rfl⟩
  · exact .inr ⟨_, _, rfl⟩
theorem sub_fin (b : Nat) (he : expo b ≠ 2047) : Ieee.double.sub b b = some 0 := by
  obtain ⟨s, m, e, h⟩ := read_fin b he
  unfold Ieee.Format.sub
  rw [h]
  cases s <;> simp [Ieee.Datum.opposite, Ieee.Datum.sum, Ieee.signed, Ieee.Format.write, Ieee.Format.nearest, Ieee.Format.word, Int.add_comm, ← Int.sub_eq_add_neg]
theorem sub_inf (b : Nat) (he : expo b = 2047) : Ieee.double.sub b b = none := by
  unfold Ieee.Format.sub
  rcases read_inf b he with ⟨s, h⟩ | ⟨s, f, h⟩ <;> rw [h]
  · cases s <;> rfl
  · rfl
theorem nan_read (t x y : Nat) : ∃ s f, Ieee.double.read ((Question.nanBits .f64 x y).cut t) = .nan s f := by
  have e : (Question.nanBits .f64 x y).cut t = (t % 2) * 9223372036854775808 + 9218868437227405312 + 1 + (t / 2) % 4503599627370495 := rfl
  rw [e]
  have h2 : (t / 2) % 4503599627370495 < 4503599627370495 := Nat.mod_lt _ (by omega)
  generalize (t / 2) % 4503599627370495 = u at h2
  unfold Ieee.Format.read
  simp only [show Ieee.double.signWeight = 9223372036854775808 from rfl, show Ieee.double.binade = 4503599627370496 from rfl, show Ieee.double.infRung = 9218868437227405312 from rfl]
  rw [if_neg (by omega), if_neg (by omega), if_neg (by omega)]
  exact ⟨_, _, rfl⟩
theorem nan_eq (t x y : Nat) : (Ieee.double.order ((Question.nanBits .f64 x y).cut t) 0 == some .eq) = false := by
  obtain ⟨s, f, h⟩ := nan_read t x y
  unfold Ieee.Format.order
  rw [h]; rfl
theorem run_sub_fin (b : Nat) (he : expo b ≠ 2047) (w : World) : (binOp .sub 25 (.float .f64 b) (.float .f64 b)).run Tryd.prog w = .ok (.float .f64 0) w :=
  run_float_arith w .sub 25 .f64 b b 0 (sub_fin b he)
theorem run_sub_inf (b : Nat) (he : expo b = 2047) (w : World) : (binOp .sub 25 (.float .f64 b) (.float .f64 b)).run Tryd.prog w = .ok (.float .f64 ((Question.nanBits .f64 b b).cut (w.tape w.drawn (.nanBits .f64 b b)))) w.drew := by
  have h := sub_inf b he
  have : FloatKind.f64.format = Ieee.double := rfl
  simp [binOp, Op.floatArith, this, h, Question.forced]

set_option maxHeartbeats 1000000 in
theorem fin_yes (b : Nat) (w : World) (he : expo b ≠ 2047) : Calls Tryd.prog 5 #[.float .f64 b] w fun e w' => e = .returned (.bool true) ∧ w = w' := by
  have k1 := run_sub_fin b he
  go_enter Tryd.func5, Tryd.ntmps5
  go_wp2
  go_ret
  exact ⟨by rfl, rfl⟩
set_option maxHeartbeats 1000000 in
theorem fin_no (b : Nat) (w : World) (he : expo b = 2047) : Calls Tryd.prog 5 #[.float .f64 b] w fun e w' => e = .returned (.bool false) ∧ w' = w.drew := by
  have k1 := run_sub_inf b he
  go_enter Tryd.func5, Tryd.ntmps5
  go_wp2
  go_ret
  exact ⟨congrArg (fun x => Ending.returned (.bool x)) (nan_eq _ b b), rfl⟩
end Go.Proofs.Qxb6608777aDoor
