import Derived.Test.Qxb6608777aDoorAdd
import Derived.Test.Qxb6608777aDoorWin
namespace Go.Proofs.Qxb6608777aDoor
open Go.RowKit

/-- What the addition of the k-th float does. -/
def Summed (X : Nat → Nat) (k Z : Nat) (w : World) (e : Ending) (w' : World) : Prop :=
  e = .returned (.tuple #[]) ∧ Only Z w w' ∧ ∃ lo hi, LS w' Z (upS X (k + 1)) (dnS X (k + 1)) lo hi ∧ Win X (k + 1) (upS X (k + 1)) (dnS X (k + 1)) lo hi

set_option maxRecDepth 100000 in
set_option maxHeartbeats 2000000 in
theorem add_zero (b Z : Nat) (w : World) (hb : b < 18446744073709551616) (hs : sig b = 0) :
    Calls Tryd.prog 13 #[.pointer (some ⟨Z, 0, none⟩), .float .f64 b] w fun e w' => e = .returned (.tuple #[]) ∧ w = w' := by
  have HW : Hid (Calls Tryd.prog 16 #[.float .f64 b] w fun e w' => e = .returned (.tuple #[.int .i64 0, .int .i64 0]) ∧ w = w') := ⟨wtp_zero b w hb hs⟩
  clear hs hb
  go_enter Tryd.func13, Tryd.ntmps13
  go_wp2_with (go_at_call 16; refine HW.out.mono ?_; rintro e w' ⟨rfl, rfl⟩)
  go_returns
  exact ⟨rfl, rfl⟩

set_option exponentiation.threshold 4000 in
theorem carry_small {P G : Nat} (h : P + G < 2 ^ (64 * 34)) (j : Nat) (hc : car P G j ≠ 0) : j ≤ 33 := by
  apply Nat.le_of_not_lt
  intro hlt
  have h1 := car_big hc
  have h2 : 2 ^ (64 * 34) ≤ 2 ^ (64 * j) := Nat.pow_le_pow_right (by omega) (by omega)
  exact absurd (Nat.lt_of_lt_of_le h h2) (Nat.not_lt.2 h1)

theorem pos_any (b u Z P Q lo hi : Nat) (w : World) (hb : b < 18446744073709551616) (he : expo b ≠ 2047) (hu : sig b = 2 ^ tz (sig b) * (2 * u + 1)) (hsg : ¬ sgn b = 1) (hT : Tab w) (h : LS w Z P Q lo hi) (hhi : hi ≤ 34) (hS : P + mag b < 2 ^ (64 * 34)) :
    Calls Tryd.prog 13 #[.pointer (some ⟨Z, 0, none⟩), .float .f64 b] w (Ends Z 0 36 P (mag b) (qOf b) Q lo hi w) := by
  obtain ⟨t53, u53⟩ := two_pow_small hu (sig_lt b)
  have l0 : base b ≤ 2045 := by have := expo_lt b; unfold base; omega
  have hA : atOf b ≤ 2097 := by unfold atOf; omega
  have HW : Hid (Calls Tryd.prog 16 #[.float .f64 b] w fun e w' => e = .returned (.tuple #[.int .i64 ((2 * u + 1 : Nat) : Int), .int .i64 ((atOf b : Int) - 1074)]) ∧ w = w') := ⟨by
    have h1 := wtp_some b (tz (sig b)) u w hb hu hT
    unfold mOf at h1
    rw [if_neg hsg, show ((base b : Int) - 1074 + (tz (sig b) : Nat)) = (atOf b : Int) - 1074 by unfold atOf; omega] at h1
    exact h1⟩
  have eG := mag_odd hu
  have HM : Hid (Mid w w Z 0 36 P (P + mag b) (qOf b) Q lo hi) := ⟨h.mid0 (fun j hj => by rw [eG]; exact at_below hj)⟩
  have z1 : wd (mag b) (qOf b) = (2 * u + 1) * 2 ^ (atOf b % 64) % 18446744073709551616 := by rw [eG]; exact at_low _ _
  have z2 : wd (mag b) (qOf b + 1) = (2 * u + 1) * 2 ^ (atOf b % 64) / 18446744073709551616 := by rw [eG]; exact (at_high u53).1
  have z3 : Hid (∀ j, qOf b + 2 ≤ j → wd (mag b) j = 0) := ⟨fun j hj => by rw [eG]; exact at_above u53 hj⟩
  have z4 : car P (mag b) (qOf b) = 0 := car_zero (by rw [eG]; exact at_mod (by unfold qOf; omega))
  have z5 : Hid (∀ j, car P (mag b) j ≠ 0 → j ≤ 33) := ⟨carry_small hS⟩
  by_cases hr : atOf b % 64 = 0
  · exact add_pos0 Z P Q lo hi b (atOf b) (2 * u + 1) (qOf b) (atOf b % 64) _ _ (mag b) w HW HM (by omega) u53 (by omega) hA rfl rfl hr rfl rfl z1 z2 z3 z4 z5
  · exact add_posr Z P Q lo hi b (atOf b) (2 * u + 1) (qOf b) (atOf b % 64) _ _ (mag b) w HW HM (by omega) u53 (by omega) hA rfl rfl (by omega) rfl rfl z1 z2 z3 z4 z5
theorem neg_any (b u Z P Q lo hi : Nat) (w : World) (hb : b < 18446744073709551616) (he : expo b ≠ 2047) (hu : sig b = 2 ^ tz (sig b) * (2 * u + 1)) (hsg : sgn b = 1) (hT : Tab w) (h : LS w Z P Q lo hi) (hhi : hi ≤ 34) (hS : Q + mag b < 2 ^ (64 * 34)) :
    Calls Tryd.prog 13 #[.pointer (some ⟨Z, 0, none⟩), .float .f64 b] w (Ends Z 36 0 Q (mag b) (qOf b) P lo hi w) := by
  obtain ⟨t53, u53⟩ := two_pow_small hu (sig_lt b)
  have l0 : base b ≤ 2045 := by have := expo_lt b; unfold base; omega
  have hA : atOf b ≤ 2097 := by unfold atOf; omega
  have HW : Hid (Calls Tryd.prog 16 #[.float .f64 b] w fun e w' => e = .returned (.tuple #[.int .i64 (-((2 * u + 1 : Nat) : Int)), .int .i64 ((atOf b : Int) - 1074)]) ∧ w = w') := ⟨by
    have h1 := wtp_some b (tz (sig b)) u w hb hu hT
    unfold mOf at h1
    rw [if_pos hsg, show ((base b : Int) - 1074 + (tz (sig b) : Nat)) = (atOf b : Int) - 1074 by unfold atOf; omega] at h1
    exact h1⟩
  have eG := mag_odd hu
  have HM : Hid (Mid w w Z 36 0 Q (Q + mag b) (qOf b) P lo hi) := ⟨h.mid1 (fun j hj => by rw [eG]; exact at_below hj)⟩
  have z1 : wd (mag b) (qOf b) = (2 * u + 1) * 2 ^ (atOf b % 64) % 18446744073709551616 := by rw [eG]; exact at_low _ _
  have z2 : wd (mag b) (qOf b + 1) = (2 * u + 1) * 2 ^ (atOf b % 64) / 18446744073709551616 := by rw [eG]; exact (at_high u53).1
  have z3 : Hid (∀ j, qOf b + 2 ≤ j → wd (mag b) j = 0) := ⟨fun j hj => by rw [eG]; exact at_above u53 hj⟩
  have z4 : car Q (mag b) (qOf b) = 0 := car_zero (by rw [eG]; exact at_mod (by unfold qOf; omega))
  have z5 : Hid (∀ j, car Q (mag b) j ≠ 0 → j ≤ 33) := ⟨carry_small hS⟩
  by_cases hr : atOf b % 64 = 0
  · exact add_neg0 Z Q P lo hi b (atOf b) (2 * u + 1) (qOf b) (atOf b % 64) _ _ (mag b) w HW HM (by omega) u53 (by omega) hA rfl rfl hr rfl rfl z1 z2 z3 z4 z5
  · exact add_negr Z Q P lo hi b (atOf b) (2 * u + 1) (qOf b) (atOf b % 64) _ _ (mag b) w HW HM (by omega) u53 (by omega) hA rfl rfl (by omega) rfl rfl z1 z2 z3 z4 z5

theorem Ends.above {Z o o2 P G q Q lo hi : Nat} {w w' : World} {e : Ending} (h : Ends Z o o2 P G q Q lo hi w e w') (hG : ∀ j, q + 2 ≤ j → wd G j = 0) :
    e = .returned (.tuple #[]) ∧ Only Z w w' ∧ ∃ j, q + 2 ≤ j ∧ j ≤ 34 ∧ (∀ i, j ≤ i → wd (P + G) i = wd P i) ∧ Row w' Z o 36 (wds (P + G)) ∧ Mid w w' Z o o2 P (P + G) j Q (lowOf lo hi q) (max hi j) := by
  obtain ⟨he, j, h1, h2, h3, h4⟩ := h
  have hab : ∀ i, j ≤ i → wd (P + G) i = wd P i := fun i hi => (add_above (fun i hi => hG i (by omega)) h3 i hi).2
  exact ⟨he, h4.only, j, h1, h2, hab, h4.whole hab, h4⟩

set_option exponentiation.threshold 4000 in
theorem sum_any (X : Nat → Nat) (k Z lo hi : Nat) (w : World) (hb : X k < 18446744073709551616) (he : expo (X k) ≠ 2047) (hT : Tab w) (h : LS w Z (upS X k) (dnS X k) lo hi) (hW : Win X k (upS X k) (dnS X k) lo hi) (hS : upS X (k + 1) + dnS X (k + 1) < 2 ^ (64 * 34)) :
    Calls Tryd.prog 13 #[.pointer (some ⟨Z, 0, none⟩), .float .f64 (X k)] w (Summed X k Z w) := by
  have eU : upS X (k + 1) = upS X k + (if sgn (X k) = 1 then 0 else mag (X k)) := rfl
  have eD : dnS X (k + 1) = dnS X k + (if sgn (X k) = 1 then mag (X k) else 0) := rfl
  by_cases hs : sig (X k) = 0
  · refine (add_zero (X k) Z w hb hs).mono ?_
    rintro e w' ⟨rfl, rfl⟩
    have e0 := mag_zero hs
    rw [e0, ite_self, Nat.add_zero] at eU eD
    refine ⟨rfl, Only.refl _ _, lo, hi, ?_, ?_⟩
    · rw [eU, eD]; exact h
    · rw [eU, eD]; exact hW.skip hs
  · obtain ⟨u, hu⟩ := tz_spec (x := sig (X k)) (by omega)
    have u53 := (two_pow_small hu (sig_lt _)).2
    have eG := mag_odd hu
    have z3 : ∀ j, qOf (X k) + 2 ≤ j → wd (mag (X k)) j = 0 := fun j hj => by rw [eG]; exact at_above u53 hj
    by_cases hsg : sgn (X k) = 1
    · rw [if_pos hsg] at eU eD
      rw [Nat.add_zero] at eU
      refine (neg_any (X k) u Z (upS X k) (dnS X k) lo hi w hb he hu hsg hT h hW.high (by omega)).mono ?_
      intro e w' hE
      obtain ⟨rfl, hO, j, h1, h2, hab, hrow, hM⟩ := hE.above z3
      refine ⟨rfl, hO, _, _, ⟨by rw [hO.size]; exact h.size, by rw [eU]; exact hM.other, by rw [eD]; exact hrow, hM.low, hM.lowf, hM.high, hM.highf⟩, ?_⟩
      rw [eU, eD]
      exact hW.add hs h1 h2 (fun i hi => ⟨rfl, by rw [eG]; exact at_below hi⟩) (fun i hi => ⟨rfl, hab i hi⟩)
    · rw [if_neg hsg] at eU eD
      rw [Nat.add_zero] at eD
      refine (pos_any (X k) u Z (upS X k) (dnS X k) lo hi w hb he hu hsg hT h hW.high (by omega)).mono ?_
      intro e w' hE
      obtain ⟨rfl, hO, j, h1, h2, hab, hrow, hM⟩ := hE.above z3
      refine ⟨rfl, hO, _, _, ⟨by rw [hO.size]; exact h.size, by rw [eU]; exact hrow, by rw [eD]; exact hM.other, hM.low, hM.lowf, hM.high, hM.highf⟩, ?_⟩
      rw [eU, eD]
      exact hW.add hs h1 h2 (fun i hi => ⟨by rw [eG]; exact at_below hi, rfl⟩) (fun i hi => ⟨hab i hi, rfl⟩)

set_option maxRecDepth 100000 in
set_option maxHeartbeats 2000000 in
theorem zadd_any (X : Nat → Nat) (k Z lo hi : Nat) (w : World) (hb : X k < 18446744073709551616) (he : expo (X k) ≠ 2047) (hT : Tab w) (h : LS w Z (upS X k) (dnS X k) lo hi) (hW : Win X k (upS X k) (dnS X k) lo hi) (hS : upS X (k + 1) + dnS X (k + 1) < 2 ^ (64 * 34)) :
    Calls Tryd.prog 7 #[.pointer (some ⟨Z, 0, none⟩), .float .f64 (X k)] w (Summed X k Z w) := by
  have HW : Hid (Calls Tryd.prog 13 #[.pointer (some ⟨Z, 0, none⟩), .float .f64 (X k)] w (Summed X k Z w)) := ⟨sum_any X k Z lo hi w hb he hT h hW hS⟩
  clear hb he hT h hW hS
  go_enter Tryd.func7, Tryd.ntmps7
  go_wp2_with fail
  refine HW.out.mono ?_
  rintro e w' ⟨rfl, hE⟩
  have HE : Hid _ := ⟨hE⟩
  clear hE
  go_wp2
  go_end0
  exact ⟨rfl, HE.out⟩
end Go.Proofs.Qxb6608777aDoor
