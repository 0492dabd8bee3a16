import Derived.Test.Qxb6608777aDoorMid
namespace Go.Proofs.Qxb6608777aDoor
open Go.RowKit

theorem word_add (P A j : Nat) (w : World) : (callFunc 17 #[.int .u64 (wd P j : Nat), .int .u64 (wd A j : Nat), .int .u64 (car P A j : Nat)]).run Tryd.prog w = .ok (.value (.tuple #[.int .u64 (wd (P + A) j : Nat), .int .u64 (car P A (j + 1) : Nat)])) w := by
  rw [add64_run _ _ _ (car_le _ _ _), wd_add, car_succ]
theorem Mid.setHigh {w wr : World} {Z o o2 P S j Q lo hi : Nat} (h : Mid w wr Z o o2 P S j Q lo hi) (v : Nat) : Mid w (wr.setCell ⟨Z, 73, none⟩ (.int .i64 (v : Nat))) Z o o2 P S j Q lo v := by
  have hs := h.sides
  refine ⟨hs, h.row.apart (by omega), h.other.apart (by omega), ?_, by rw [World.frozen?_setCell]; exact h.lowf, World.cell?_setCell_same _ _ _ h.high, by rw [World.frozen?_setCell]; exact h.highf, h.only.set _ _⟩
  rw [World.cell?_setCell_other _ _ _ _ (fun e => by injection e with e1 e2; omega)]; exact h.low
theorem Mid.setLow {w wr : World} {Z o o2 P S j Q lo hi : Nat} (h : Mid w wr Z o o2 P S j Q lo hi) (v : Nat) : Mid w (wr.setCell ⟨Z, 72, none⟩ (.int .i64 (v : Nat))) Z o o2 P S j Q v hi := by
  have hs := h.sides
  refine ⟨hs, h.row.apart (by omega), h.other.apart (by omega), World.cell?_setCell_same _ _ _ h.low, by rw [World.frozen?_setCell]; exact h.lowf, ?_, by rw [World.frozen?_setCell]; exact h.highf, h.only.set _ _⟩
  rw [World.cell?_setCell_other _ _ _ _ (fun e => by injection e with e1 e2; omega)]; exact h.high
/-- What an addition does. -/
def Ends (Z o o2 P G q Q lo hi : Nat) (w : World) (e : Ending) (w' : World) : Prop :=
  e = .returned (.tuple #[]) ∧ ∃ j, q + 2 ≤ j ∧ j ≤ 34 ∧ car P G j = 0 ∧ Mid w w' Z o o2 P (P + G) j Q (lowOf lo hi q) (max hi j)
theorem shr_part (M r : Nat) (hr : r < 64) (hr0 : 0 < r) : (M : Int) / 2 ^ (64 - r) = ((M * 2 ^ r / 18446744073709551616 : Nat) : Int) := by
  have e : 18446744073709551616 = 2 ^ (64 - r) * 2 ^ r := by rw [← Nat.pow_add, show 64 - r + r = 64 by omega]
  rw [e, Nat.mul_div_mul_right _ _ (Nat.two_pow_pos _)]
  simp

set_option maxRecDepth 100000 in
set_option maxHeartbeats 8000000 in
theorem add_posr (Z P Q lo hi b A M q r X1 X2 G : Nat) (w : World)
    (HW : Hid (Calls Tryd.prog 16 #[.float .f64 b] w fun e w' => e = .returned (.tuple #[.int .i64 (M : Int), .int .i64 ((A : Int) - 1074)]) ∧ w = w'))
    (HM : Hid (Mid w w Z 0 36 P (P + G) q Q lo hi)) (hhi : hi ≤ 100)
    (hM : M < 9007199254740992) (hM0 : 0 < M) (hA : A ≤ 2097) (hq : A / 64 = q) (hr : A % 64 = r) (hr0 : 0 < r)
    (y1 : (M * 2 ^ r) % 18446744073709551616 = X1) (y2 : M * 2 ^ r / 18446744073709551616 = X2)
    (z1 : wd G q = X1) (z2 : wd G (q + 1) = X2) (z3 : Hid (∀ j, q + 2 ≤ j → wd G j = 0)) (z4 : car P G q = 0) (z5 : Hid (∀ j, car P G j ≠ 0 → j ≤ 33)) :
    Calls Tryd.prog 13 #[.pointer (some ⟨Z, 0, none⟩), .float .f64 b] w (Ends Z 0 36 P G q Q lo hi w) := by
  have em : (A : Int) - 1074 + 1074 = (A : Int) := by omega
  have e1 : (A : Int).tdiv 64 = (q : Int) := by rw [Int.tdiv_eq_ediv_of_nonneg (by omega)]; omega
  have e2 : (A : Int).tmod 64 = (r : Int) := by rw [Int.tmod_eq_emod_of_nonneg (by omega)]; omega
  have e1' : (A : Int) / 64 = (q : Int) := by omega
  have e2' : (A : Int) % 64 = (r : Int) := by omega
  have g0 : (0 : Int) ≤ (q : Int) := by omega
  have g1 : (q : Int) < 33 := by omega
  have g2 : (0 : Int) ≤ (r : Int) := by omega
  have g3 : (r : Int) < 64 := by omega
  have m0 : ¬ (M : Int) < 0 := by omega
  have m1 : ((M : Int) == 0) = false := by simp; omega
  have x1 : IntKind.u64.wrap ((M : Int) * 2 ^ r) = (X1 : Int) := by
    rw [IntKind.wrap_u64, show (2 : Int) ^ r = ((2 ^ r : Nat) : Int) by simp, ← Int.natCast_mul, ← y1]; omega
  have k1 := word_add P G q
  have k2 := word_add P G (q + 1)
  rw [z1, z4] at k1
  rw [z2] at k2
  change ∀ w, (callFunc 17 #[.int .u64 (wd P q : Nat), .int .u64 (X1 : Nat), .int .u64 0]).run Tryd.prog w = .ok (.value (.tuple #[.int .u64 (wd (P + G) q : Nat), .int .u64 (car P G (q + 1) : Nat)])) w at k1
  obtain ⟨c1, c2⟩ := HM.out.at (q := q) (by omega) (by omega)
  have HM1 : Hid (Mid w _ Z 0 36 P (P + G) (q + 1) Q lo hi) := ⟨HM.out.step (by omega) (Nat.zero_add q).symm rfl⟩
  obtain ⟨q1, eq1⟩ : ∃ q1, q1 = q + 1 := ⟨_, rfl⟩
  obtain ⟨s, es⟩ : ∃ s, s = 64 - r := ⟨_, rfl⟩
  have hs1 := car_le P G (q + 1)
  have hs2 := car_le P G (q + 1 + 1)
  rw [← eq1] at HM1 k2 k1 hs1 hs2
  obtain ⟨C1, eC1⟩ : ∃ C1, C1 = car P G q1 := ⟨_, rfl⟩
  obtain ⟨C2, eC2⟩ : ∃ C2, C2 = car P G (q1 + 1) := ⟨_, rfl⟩
  rw [← eC1] at k1 k2 hs1
  rw [← eC2] at k2 hs2
  have HC2 : Hid (C2 = car P G (q1 + 1)) := ⟨eC2⟩
  have e3 : (q : Int) + 1 = (q1 : Int) := by omega
  have f0 : (0 : Int) ≤ (q1 : Int) := by omega
  have f1 : (q1 : Int) < 34 := by omega
  have e4 : (64 : Int) - (r : Int) = (s : Int) := by omega
  have f2 : (0 : Int) ≤ (s : Int) := by omega
  have f3 : (s : Int) < 64 := by omega
  have x2 : (M : Int) / 2 ^ s = (X2 : Int) := by rw [← y2, es]; exact shr_part M r (by omega) hr0
  have Heq1 : Hid (q1 = q + 1) := ⟨eq1⟩
  clear y1 y2 es eq1 eC1 eC2
  clear hM0 hq hr hA z1 z2 z4 hr0
  go_enter Tryd.func13, Tryd.ntmps13
  go_wp2_with (go_at_call 16; refine HW.out.mono ?_; rintro e w' ⟨rfl, rfl⟩)
  go_region
  go_wp2
  obtain ⟨w1, ew⟩ : ∃ y, y = (w.setCell ⟨Z, q, none⟩ (.int .u64 (wd (P + G) q : Nat))).drew := ⟨_, rfl⟩
  rw [← ew] at HM1 ⊢
  clear ew c1 c2 k1
  obtain ⟨c1, c2⟩ := HM1.out.at (q := q1) (by omega) (by omega)
  have HM2 : Hid (Mid w _ Z 0 36 P (P + G) (q1 + 1) Q lo hi) := ⟨HM1.out.step (by omega) (Nat.zero_add q1).symm rfl⟩
  go_region
  go_wp2
  obtain ⟨w2, ew⟩ : ∃ y, y = (w1.setCell ⟨Z, q1, none⟩ (.int .u64 (wd (P + G) q1 : Nat))).drew := ⟨_, rfl⟩
  rw [← ew] at HM2 ⊢
  clear ew c1 c2 k2 x1 x2 m1 HM1 HM
  go_loopw [10, 11] (fun c e wr => ∃ j cc : Nat, q + 2 ≤ j ∧ j ≤ 34 ∧ cc ≤ 1 ∧ e = .int .i64 j ∧ c = .int .u64 cc ∧ Hid (cc = car P G j) ∧ Hid (Mid w wr Z 0 36 P (P + G) j Q lo hi)) (fun _ e _ => 36 - (intOf e).toNat)
  case atStart =>
    refine ⟨q + 2, C2, Nat.le_refl _, by omega, hs2, by go_num, rfl, ⟨?_⟩, ⟨?_⟩⟩
    · have h1 := HC2.out; rw [Heq1.out] at h1; exact h1
    · have h1 := HM2.out; rw [Heq1.out] at h1; exact h1
  case round =>
    obtain ⟨j, cc, hj, hj2, hcc, rfl, rfl, HC, HMj⟩ := hrel
    clear HM2 HC2
    have hc : cc = 0 ∨ cc = 1 := by omega
    rcases hc with rfl | rfl
    · have c1 := HMj.out.low
      have c2 := HMj.out.lowf
      have c3 := HMj.out.high
      have c4 := HMj.out.highf
      have HL := HMj.out.setLow q
      have d1 := HL.high
      have d2 := HL.highf
      have A1 : Hid (hi ≤ j → Mid w (wr.setCell ⟨Z, 73, none⟩ (.int .i64 (j : Nat))) Z 0 36 P (P + G) j Q lo (max hi j)) := ⟨fun h => by rw [Nat.max_eq_right h]; exact HMj.out.setHigh j⟩
      have A2 : Hid (j ≤ hi → Mid w (wr.setCell ⟨Z, 73, none⟩ (.int .i64 (hi : Nat))) Z 0 36 P (P + G) j Q lo (max hi j)) := ⟨fun h => by rw [Nat.max_eq_left h]; exact HMj.out.setHigh hi⟩
      have B1 : Hid (hi ≤ j → Mid w ((wr.setCell ⟨Z, 72, none⟩ (.int .i64 (q : Nat))).setCell ⟨Z, 73, none⟩ (.int .i64 (j : Nat))) Z 0 36 P (P + G) j Q q (max hi j)) := ⟨fun h => by rw [Nat.max_eq_right h]; exact HL.setHigh j⟩
      have B2 : Hid (j ≤ hi → Mid w ((wr.setCell ⟨Z, 72, none⟩ (.int .i64 (q : Nat))).setCell ⟨Z, 73, none⟩ (.int .i64 (hi : Nat))) Z 0 36 P (P + G) j Q q (max hi j)) := ⟨fun h => by rw [Nat.max_eq_left h]; exact HL.setHigh hi⟩
      have HJ : Hid (q + 2 ≤ j ∧ j ≤ 34 ∧ car P G j = 0) := ⟨hj, hj2, HC.out.symm⟩
      clear HL HMj HC
      by_cases h0 : hi = 0
      · have HLO : Hid (lowOf lo hi q = q) := ⟨by unfold lowOf; rw [if_pos (Or.inl h0)]⟩
        subst h0
        go_wp2
        all_goals
          go_end0
          exact ⟨rfl, j, HJ.out.1, HJ.out.2.1, HJ.out.2.2, by rw [HLO.out]; first | exact B1.out (by omega) | exact B2.out (by omega)⟩
      · have n0 : ((hi : Int) == 0) = false := by simp; omega
        by_cases h1 : q < lo
        · have HLO : Hid (lowOf lo hi q = q) := ⟨by unfold lowOf; rw [if_pos (Or.inr h1)]⟩
          have n1 : (q : Int) < (lo : Int) := by omega
          go_wp2
          all_goals
            go_end0
            exact ⟨rfl, j, HJ.out.1, HJ.out.2.1, HJ.out.2.2, by rw [HLO.out]; first | exact B1.out (by omega) | exact B2.out (by omega)⟩
        · have HLO : Hid (lowOf lo hi q = lo) := ⟨by unfold lowOf; rw [if_neg (by omega)]⟩
          have n1 : ¬ (q : Int) < (lo : Int) := by omega
          go_wp2
          all_goals
            go_end0
            exact ⟨rfl, j, HJ.out.1, HJ.out.2.1, HJ.out.2.2, by rw [HLO.out]; first | exact A1.out (by omega) | exact A2.out (by omega)⟩
    · have hj3 : j ≤ 33 := z5.out j (by rw [← HC.out]; omega)
      have k3 := word_add P G j
      rw [z3.out j hj, ← HC.out] at k3
      change ∀ w, (callFunc 17 #[.int .u64 (wd P j : Nat), .int .u64 0, .int .u64 1]).run Tryd.prog w = .ok (.value (.tuple #[.int .u64 (wd (P + G) j : Nat), .int .u64 (car P G (j + 1) : Nat)])) w at k3
      have hs3 := car_le P G (j + 1)
      obtain ⟨C3, eC3⟩ : ∃ C3, C3 = car P G (j + 1) := ⟨_, rfl⟩
      rw [← eC3] at k3 hs3
      have HC3 : Hid (C3 = car P G (j + 1)) := ⟨eC3⟩
      have j0 : (0 : Int) ≤ (j : Int) := by omega
      have j1 : (j : Int) < 34 := by omega
      obtain ⟨c1, c2⟩ := HMj.out.at (q := j) (by omega) (by omega)
      have HM3 : Hid (Mid w _ Z 0 36 P (P + G) (j + 1) Q lo hi) := ⟨HMj.out.step (by omega) (Nat.zero_add j).symm rfl⟩
      clear eC3 HC HMj
      go_wp2
      go_region
      go_wp2
      go_roundw
      case rel => exact ⟨j + 1, C3, by omega, by omega, hs3, by go_num, rfl, HC3, HM3⟩
      case measure => simp [intOf]; omega

set_option maxRecDepth 100000 in
set_option maxHeartbeats 8000000 in
theorem add_pos0 (Z P Q lo hi b A M q r X1 X2 G : Nat) (w : World)
    (HW : Hid (Calls Tryd.prog 16 #[.float .f64 b] w fun e w' => e = .returned (.tuple #[.int .i64 (M : Int), .int .i64 ((A : Int) - 1074)]) ∧ w = w'))
    (HM : Hid (Mid w w Z 0 36 P (P + G) q Q lo hi)) (hhi : hi ≤ 100)
    (hM : M < 9007199254740992) (hM0 : 0 < M) (hA : A ≤ 2097) (hq : A / 64 = q) (hr : A % 64 = r) (hr0 : r = 0)
    (y1 : (M * 2 ^ r) % 18446744073709551616 = X1) (y2 : M * 2 ^ r / 18446744073709551616 = X2)
    (z1 : wd G q = X1) (z2 : wd G (q + 1) = X2) (z3 : Hid (∀ j, q + 2 ≤ j → wd G j = 0)) (z4 : car P G q = 0) (z5 : Hid (∀ j, car P G j ≠ 0 → j ≤ 33)) :
    Calls Tryd.prog 13 #[.pointer (some ⟨Z, 0, none⟩), .float .f64 b] w (Ends Z 0 36 P G q Q lo hi w) := by
  have em : (A : Int) - 1074 + 1074 = (A : Int) := by omega
  have e1 : (A : Int).tdiv 64 = (q : Int) := by rw [Int.tdiv_eq_ediv_of_nonneg (by omega)]; omega
  have e2 : (A : Int).tmod 64 = (r : Int) := by rw [Int.tmod_eq_emod_of_nonneg (by omega)]; omega
  have e1' : (A : Int) / 64 = (q : Int) := by omega
  have e2' : (A : Int) % 64 = (r : Int) := by omega
  have g0 : (0 : Int) ≤ (q : Int) := by omega
  have g1 : (q : Int) < 33 := by omega
  have g2 : (0 : Int) ≤ (r : Int) := by omega
  have g3 : (r : Int) < 64 := by omega
  have m0 : ¬ (M : Int) < 0 := by omega
  have m1 : ((M : Int) == 0) = false := by simp; omega
  have x1 : IntKind.u64.wrap ((M : Int) * 2 ^ r) = (X1 : Int) := by
    rw [IntKind.wrap_u64, show (2 : Int) ^ r = ((2 ^ r : Nat) : Int) by simp, ← Int.natCast_mul, ← y1]; omega
  have k1 := word_add P G q
  have k2 := word_add P G (q + 1)
  rw [z1, z4] at k1
  rw [z2] at k2
  change ∀ w, (callFunc 17 #[.int .u64 (wd P q : Nat), .int .u64 (X1 : Nat), .int .u64 0]).run Tryd.prog w = .ok (.value (.tuple #[.int .u64 (wd (P + G) q : Nat), .int .u64 (car P G (q + 1) : Nat)])) w at k1
  obtain ⟨c1, c2⟩ := HM.out.at (q := q) (by omega) (by omega)
  have HM1 : Hid (Mid w _ Z 0 36 P (P + G) (q + 1) Q lo hi) := ⟨HM.out.step (by omega) (Nat.zero_add q).symm rfl⟩
  obtain ⟨q1, eq1⟩ : ∃ q1, q1 = q + 1 := ⟨_, rfl⟩
  obtain ⟨s, es⟩ : ∃ s, s = 64 - r := ⟨_, rfl⟩
  have hs1 := car_le P G (q + 1)
  have hs2 := car_le P G (q + 1 + 1)
  rw [← eq1] at HM1 k2 k1 hs1 hs2
  obtain ⟨C1, eC1⟩ : ∃ C1, C1 = car P G q1 := ⟨_, rfl⟩
  obtain ⟨C2, eC2⟩ : ∃ C2, C2 = car P G (q1 + 1) := ⟨_, rfl⟩
  rw [← eC1] at k1 k2 hs1
  rw [← eC2] at k2 hs2
  have HC2 : Hid (C2 = car P G (q1 + 1)) := ⟨eC2⟩
  have e3 : (q : Int) + 1 = (q1 : Int) := by omega
  have f0 : (0 : Int) ≤ (q1 : Int) := by omega
  have f1 : (q1 : Int) < 34 := by omega
  have x2 : (M : Int) / 18446744073709551616 = (X2 : Int) := by rw [← y2, hr0]; simp
  have X1M : M = X1 := by rw [← y1, hr0]; simp; omega
  subst X1M
  subst hr0
  have Heq1 : Hid (q1 = q + 1) := ⟨eq1⟩
  clear y1 y2 es eq1 eC1 eC2
  clear hM0 hq hr hA z1 z2 z4 
  go_enter Tryd.func13, Tryd.ntmps13
  go_wp2_with (go_at_call 16; refine HW.out.mono ?_; rintro e w' ⟨rfl, rfl⟩)
  go_region
  go_wp2
  obtain ⟨w1, ew⟩ : ∃ y, y = (w.setCell ⟨Z, q, none⟩ (.int .u64 (wd (P + G) q : Nat))).drew := ⟨_, rfl⟩
  rw [← ew] at HM1 ⊢
  clear ew c1 c2 k1
  obtain ⟨c1, c2⟩ := HM1.out.at (q := q1) (by omega) (by omega)
  have HM2 : Hid (Mid w _ Z 0 36 P (P + G) (q1 + 1) Q lo hi) := ⟨HM1.out.step (by omega) (Nat.zero_add q1).symm rfl⟩
  go_region
  go_wp2
  obtain ⟨w2, ew⟩ : ∃ y, y = (w1.setCell ⟨Z, q1, none⟩ (.int .u64 (wd (P + G) q1 : Nat))).drew := ⟨_, rfl⟩
  rw [← ew] at HM2 ⊢
  clear ew c1 c2 k2 x1 x2 m1 HM1 HM
  go_loopw [10, 11] (fun c e wr => ∃ j cc : Nat, q + 2 ≤ j ∧ j ≤ 34 ∧ cc ≤ 1 ∧ e = .int .i64 j ∧ c = .int .u64 cc ∧ Hid (cc = car P G j) ∧ Hid (Mid w wr Z 0 36 P (P + G) j Q lo hi)) (fun _ e _ => 36 - (intOf e).toNat)
  case atStart =>
    refine ⟨q + 2, C2, Nat.le_refl _, by omega, hs2, by go_num, rfl, ⟨?_⟩, ⟨?_⟩⟩
    · have h1 := HC2.out; rw [Heq1.out] at h1; exact h1
    · have h1 := HM2.out; rw [Heq1.out] at h1; exact h1
  case round =>
    obtain ⟨j, cc, hj, hj2, hcc, rfl, rfl, HC, HMj⟩ := hrel
    clear HM2 HC2
    have hc : cc = 0 ∨ cc = 1 := by omega
    rcases hc with rfl | rfl
    · have c1 := HMj.out.low
      have c2 := HMj.out.lowf
      have c3 := HMj.out.high
      have c4 := HMj.out.highf
      have HL := HMj.out.setLow q
      have d1 := HL.high
      have d2 := HL.highf
      have A1 : Hid (hi ≤ j → Mid w (wr.setCell ⟨Z, 73, none⟩ (.int .i64 (j : Nat))) Z 0 36 P (P + G) j Q lo (max hi j)) := ⟨fun h => by rw [Nat.max_eq_right h]; exact HMj.out.setHigh j⟩
      have A2 : Hid (j ≤ hi → Mid w (wr.setCell ⟨Z, 73, none⟩ (.int .i64 (hi : Nat))) Z 0 36 P (P + G) j Q lo (max hi j)) := ⟨fun h => by rw [Nat.max_eq_left h]; exact HMj.out.setHigh hi⟩
      have B1 : Hid (hi ≤ j → Mid w ((wr.setCell ⟨Z, 72, none⟩ (.int .i64 (q : Nat))).setCell ⟨Z, 73, none⟩ (.int .i64 (j : Nat))) Z 0 36 P (P + G) j Q q (max hi j)) := ⟨fun h => by rw [Nat.max_eq_right h]; exact HL.setHigh j⟩
      have B2 : Hid (j ≤ hi → Mid w ((wr.setCell ⟨Z, 72, none⟩ (.int .i64 (q : Nat))).setCell ⟨Z, 73, none⟩ (.int .i64 (hi : Nat))) Z 0 36 P (P + G) j Q q (max hi j)) := ⟨fun h => by rw [Nat.max_eq_left h]; exact HL.setHigh hi⟩
      have HJ : Hid (q + 2 ≤ j ∧ j ≤ 34 ∧ car P G j = 0) := ⟨hj, hj2, HC.out.symm⟩
      clear HL HMj HC
      by_cases h0 : hi = 0
      · have HLO : Hid (lowOf lo hi q = q) := ⟨by unfold lowOf; rw [if_pos (Or.inl h0)]⟩
        subst h0
        go_wp2
        all_goals
          go_end0
          exact ⟨rfl, j, HJ.out.1, HJ.out.2.1, HJ.out.2.2, by rw [HLO.out]; first | exact B1.out (by omega) | exact B2.out (by omega)⟩
      · have n0 : ((hi : Int) == 0) = false := by simp; omega
        by_cases h1 : q < lo
        · have HLO : Hid (lowOf lo hi q = q) := ⟨by unfold lowOf; rw [if_pos (Or.inr h1)]⟩
          have n1 : (q : Int) < (lo : Int) := by omega
          go_wp2
          all_goals
            go_end0
            exact ⟨rfl, j, HJ.out.1, HJ.out.2.1, HJ.out.2.2, by rw [HLO.out]; first | exact B1.out (by omega) | exact B2.out (by omega)⟩
        · have HLO : Hid (lowOf lo hi q = lo) := ⟨by unfold lowOf; rw [if_neg (by omega)]⟩
          have n1 : ¬ (q : Int) < (lo : Int) := by omega
          go_wp2
          all_goals
            go_end0
            exact ⟨rfl, j, HJ.out.1, HJ.out.2.1, HJ.out.2.2, by rw [HLO.out]; first | exact A1.out (by omega) | exact A2.out (by omega)⟩
    · have hj3 : j ≤ 33 := z5.out j (by rw [← HC.out]; omega)
      have k3 := word_add P G j
      rw [z3.out j hj, ← HC.out] at k3
      change ∀ w, (callFunc 17 #[.int .u64 (wd P j : Nat), .int .u64 0, .int .u64 1]).run Tryd.prog w = .ok (.value (.tuple #[.int .u64 (wd (P + G) j : Nat), .int .u64 (car P G (j + 1) : Nat)])) w at k3
      have hs3 := car_le P G (j + 1)
      obtain ⟨C3, eC3⟩ : ∃ C3, C3 = car P G (j + 1) := ⟨_, rfl⟩
      rw [← eC3] at k3 hs3
      have HC3 : Hid (C3 = car P G (j + 1)) := ⟨eC3⟩
      have j0 : (0 : Int) ≤ (j : Int) := by omega
      have j1 : (j : Int) < 34 := by omega
      obtain ⟨c1, c2⟩ := HMj.out.at (q := j) (by omega) (by omega)
      have HM3 : Hid (Mid w _ Z 0 36 P (P + G) (j + 1) Q lo hi) := ⟨HMj.out.step (by omega) (Nat.zero_add j).symm rfl⟩
      clear eC3 HC HMj
      go_wp2
      go_region
      go_wp2
      go_roundw
      case rel => exact ⟨j + 1, C3, by omega, by omega, hs3, by go_num, rfl, HC3, HM3⟩
      case measure => simp [intOf]; omega

set_option maxRecDepth 100000 in
set_option maxHeartbeats 8000000 in
theorem add_negr (Z P Q lo hi b A M q r X1 X2 G : Nat) (w : World)
    (HW : Hid (Calls Tryd.prog 16 #[.float .f64 b] w fun e w' => e = .returned (.tuple #[.int .i64 (-(M : Int)), .int .i64 ((A : Int) - 1074)]) ∧ w = w'))
    (HM : Hid (Mid w w Z 36 0 P (P + G) q Q lo hi)) (hhi : hi ≤ 100)
    (hM : M < 9007199254740992) (hM0 : 0 < M) (hA : A ≤ 2097) (hq : A / 64 = q) (hr : A % 64 = r) (hr0 : 0 < r)
    (y1 : (M * 2 ^ r) % 18446744073709551616 = X1) (y2 : M * 2 ^ r / 18446744073709551616 = X2)
    (z1 : wd G q = X1) (z2 : wd G (q + 1) = X2) (z3 : Hid (∀ j, q + 2 ≤ j → wd G j = 0)) (z4 : car P G q = 0) (z5 : Hid (∀ j, car P G j ≠ 0 → j ≤ 33)) :
    Calls Tryd.prog 13 #[.pointer (some ⟨Z, 0, none⟩), .float .f64 b] w (Ends Z 36 0 P G q Q lo hi w) := by
  have em : (A : Int) - 1074 + 1074 = (A : Int) := by omega
  have e1 : (A : Int).tdiv 64 = (q : Int) := by rw [Int.tdiv_eq_ediv_of_nonneg (by omega)]; omega
  have e2 : (A : Int).tmod 64 = (r : Int) := by rw [Int.tmod_eq_emod_of_nonneg (by omega)]; omega
  have e1' : (A : Int) / 64 = (q : Int) := by omega
  have e2' : (A : Int) % 64 = (r : Int) := by omega
  have g0 : (0 : Int) ≤ (q : Int) := by omega
  have g1 : (q : Int) < 33 := by omega
  have g2 : (0 : Int) ≤ (r : Int) := by omega
  have g3 : (r : Int) < 64 := by omega
  have m0 : -(M : Int) < 0 := by omega
  have m1 : (-(M : Int) == 0) = false := by simp; omega
  have x1 : IntKind.u64.wrap ((M : Int) * 2 ^ r) = (X1 : Int) := by
    rw [IntKind.wrap_u64, show (2 : Int) ^ r = ((2 ^ r : Nat) : Int) by simp, ← Int.natCast_mul, ← y1]; omega
  have k1 := word_add P G q
  have k2 := word_add P G (q + 1)
  rw [z1, z4] at k1
  rw [z2] at k2
  change ∀ w, (callFunc 17 #[.int .u64 (wd P q : Nat), .int .u64 (X1 : Nat), .int .u64 0]).run Tryd.prog w = .ok (.value (.tuple #[.int .u64 (wd (P + G) q : Nat), .int .u64 (car P G (q + 1) : Nat)])) w at k1
  obtain ⟨c1, c2⟩ := HM.out.at (q := 36 + q) (by omega) (by omega)
  have HM1 : Hid (Mid w _ Z 36 0 P (P + G) (q + 1) Q lo hi) := ⟨HM.out.step (by omega) rfl rfl⟩
  obtain ⟨q1, eq1⟩ : ∃ q1, q1 = q + 1 := ⟨_, rfl⟩
  obtain ⟨s, es⟩ : ∃ s, s = 64 - r := ⟨_, rfl⟩
  have hs1 := car_le P G (q + 1)
  have hs2 := car_le P G (q + 1 + 1)
  rw [← eq1] at HM1 k2 k1 hs1 hs2
  obtain ⟨C1, eC1⟩ : ∃ C1, C1 = car P G q1 := ⟨_, rfl⟩
  obtain ⟨C2, eC2⟩ : ∃ C2, C2 = car P G (q1 + 1) := ⟨_, rfl⟩
  rw [← eC1] at k1 k2 hs1
  rw [← eC2] at k2 hs2
  have HC2 : Hid (C2 = car P G (q1 + 1)) := ⟨eC2⟩
  have e3 : (q : Int) + 1 = (q1 : Int) := by omega
  have f0 : (0 : Int) ≤ (q1 : Int) := by omega
  have f1 : (q1 : Int) < 34 := by omega
  have e4 : (64 : Int) - (r : Int) = (s : Int) := by omega
  have f2 : (0 : Int) ≤ (s : Int) := by omega
  have f3 : (s : Int) < 64 := by omega
  have x2 : (M : Int) / 2 ^ s = (X2 : Int) := by rw [← y2, es]; exact shr_part M r (by omega) hr0
  have Heq1 : Hid (q1 = q + 1) := ⟨eq1⟩
  clear y1 y2 es eq1 eC1 eC2
  clear hM0 hq hr hA z1 z2 z4 hr0
  go_enter Tryd.func13, Tryd.ntmps13
  go_wp2_with (go_at_call 16; refine HW.out.mono ?_; rintro e w' ⟨rfl, rfl⟩)
  go_region
  go_wp2
  obtain ⟨w1, ew⟩ : ∃ y, y = (w.setCell ⟨Z, 36 + q, none⟩ (.int .u64 (wd (P + G) q : Nat))).drew := ⟨_, rfl⟩
  rw [← ew] at HM1 ⊢
  clear ew c1 c2 k1
  obtain ⟨c1, c2⟩ := HM1.out.at (q := 36 + q1) (by omega) (by omega)
  have HM2 : Hid (Mid w _ Z 36 0 P (P + G) (q1 + 1) Q lo hi) := ⟨HM1.out.step (by omega) rfl rfl⟩
  go_region
  go_wp2
  obtain ⟨w2, ew⟩ : ∃ y, y = (w1.setCell ⟨Z, 36 + q1, none⟩ (.int .u64 (wd (P + G) q1 : Nat))).drew := ⟨_, rfl⟩
  rw [← ew] at HM2 ⊢
  clear ew c1 c2 k2 x1 x2 m1 HM1 HM
  go_loopw [10, 11] (fun c e wr => ∃ j cc : Nat, q + 2 ≤ j ∧ j ≤ 34 ∧ cc ≤ 1 ∧ e = .int .i64 j ∧ c = .int .u64 cc ∧ Hid (cc = car P G j) ∧ Hid (Mid w wr Z 36 0 P (P + G) j Q lo hi)) (fun _ e _ => 36 - (intOf e).toNat)
  case atStart =>
    refine ⟨q + 2, C2, Nat.le_refl _, by omega, hs2, by go_num, rfl, ⟨?_⟩, ⟨?_⟩⟩
    · have h1 := HC2.out; rw [Heq1.out] at h1; exact h1
    · have h1 := HM2.out; rw [Heq1.out] at h1; exact h1
  case round =>
    obtain ⟨j, cc, hj, hj2, hcc, rfl, rfl, HC, HMj⟩ := hrel
    clear HM2 HC2
    have hc : cc = 0 ∨ cc = 1 := by omega
    rcases hc with rfl | rfl
    · have c1 := HMj.out.low
      have c2 := HMj.out.lowf
      have c3 := HMj.out.high
      have c4 := HMj.out.highf
      have HL := HMj.out.setLow q
      have d1 := HL.high
      have d2 := HL.highf
      have A1 : Hid (hi ≤ j → Mid w (wr.setCell ⟨Z, 73, none⟩ (.int .i64 (j : Nat))) Z 36 0 P (P + G) j Q lo (max hi j)) := ⟨fun h => by rw [Nat.max_eq_right h]; exact HMj.out.setHigh j⟩
      have A2 : Hid (j ≤ hi → Mid w (wr.setCell ⟨Z, 73, none⟩ (.int .i64 (hi : Nat))) Z 36 0 P (P + G) j Q lo (max hi j)) := ⟨fun h => by rw [Nat.max_eq_left h]; exact HMj.out.setHigh hi⟩
      have B1 : Hid (hi ≤ j → Mid w ((wr.setCell ⟨Z, 72, none⟩ (.int .i64 (q : Nat))).setCell ⟨Z, 73, none⟩ (.int .i64 (j : Nat))) Z 36 0 P (P + G) j Q q (max hi j)) := ⟨fun h => by rw [Nat.max_eq_right h]; exact HL.setHigh j⟩
      have B2 : Hid (j ≤ hi → Mid w ((wr.setCell ⟨Z, 72, none⟩ (.int .i64 (q : Nat))).setCell ⟨Z, 73, none⟩ (.int .i64 (hi : Nat))) Z 36 0 P (P + G) j Q q (max hi j)) := ⟨fun h => by rw [Nat.max_eq_left h]; exact HL.setHigh hi⟩
      have HJ : Hid (q + 2 ≤ j ∧ j ≤ 34 ∧ car P G j = 0) := ⟨hj, hj2, HC.out.symm⟩
      clear HL HMj HC
      by_cases h0 : hi = 0
      · have HLO : Hid (lowOf lo hi q = q) := ⟨by unfold lowOf; rw [if_pos (Or.inl h0)]⟩
        subst h0
        go_wp2
        all_goals
          go_end0
          exact ⟨rfl, j, HJ.out.1, HJ.out.2.1, HJ.out.2.2, by rw [HLO.out]; first | exact B1.out (by omega) | exact B2.out (by omega)⟩
      · have n0 : ((hi : Int) == 0) = false := by simp; omega
        by_cases h1 : q < lo
        · have HLO : Hid (lowOf lo hi q = q) := ⟨by unfold lowOf; rw [if_pos (Or.inr h1)]⟩
          have n1 : (q : Int) < (lo : Int) := by omega
          go_wp2
          all_goals
            go_end0
            exact ⟨rfl, j, HJ.out.1, HJ.out.2.1, HJ.out.2.2, by rw [HLO.out]; first | exact B1.out (by omega) | exact B2.out (by omega)⟩
        · have HLO : Hid (lowOf lo hi q = lo) := ⟨by unfold lowOf; rw [if_neg (by omega)]⟩
          have n1 : ¬ (q : Int) < (lo : Int) := by omega
          go_wp2
          all_goals
            go_end0
            exact ⟨rfl, j, HJ.out.1, HJ.out.2.1, HJ.out.2.2, by rw [HLO.out]; first | exact A1.out (by omega) | exact A2.out (by omega)⟩
    · have hj3 : j ≤ 33 := z5.out j (by rw [← HC.out]; omega)
      have k3 := word_add P G j
      rw [z3.out j hj, ← HC.out] at k3
      change ∀ w, (callFunc 17 #[.int .u64 (wd P j : Nat), .int .u64 0, .int .u64 1]).run Tryd.prog w = .ok (.value (.tuple #[.int .u64 (wd (P + G) j : Nat), .int .u64 (car P G (j + 1) : Nat)])) w at k3
      have hs3 := car_le P G (j + 1)
      obtain ⟨C3, eC3⟩ : ∃ C3, C3 = car P G (j + 1) := ⟨_, rfl⟩
      rw [← eC3] at k3 hs3
      have HC3 : Hid (C3 = car P G (j + 1)) := ⟨eC3⟩
      have j0 : (0 : Int) ≤ (j : Int) := by omega
      have j1 : (j : Int) < 34 := by omega
      obtain ⟨c1, c2⟩ := HMj.out.at (q := 36 + j) (by omega) (by omega)
      have HM3 : Hid (Mid w _ Z 36 0 P (P + G) (j + 1) Q lo hi) := ⟨HMj.out.step (by omega) rfl rfl⟩
      clear eC3 HC HMj
      go_wp2
      go_region
      go_wp2
      go_roundw
      case rel => exact ⟨j + 1, C3, by omega, by omega, hs3, by go_num, rfl, HC3, HM3⟩
      case measure => simp [intOf]; omega

set_option maxRecDepth 100000 in
set_option maxHeartbeats 8000000 in
theorem add_neg0 (Z P Q lo hi b A M q r X1 X2 G : Nat) (w : World)
    (HW : Hid (Calls Tryd.prog 16 #[.float .f64 b] w fun e w' => e = .returned (.tuple #[.int .i64 (-(M : Int)), .int .i64 ((A : Int) - 1074)]) ∧ w = w'))
    (HM : Hid (Mid w w Z 36 0 P (P + G) q Q lo hi)) (hhi : hi ≤ 100)
    (hM : M < 9007199254740992) (hM0 : 0 < M) (hA : A ≤ 2097) (hq : A / 64 = q) (hr : A % 64 = r) (hr0 : r = 0)
    (y1 : (M * 2 ^ r) % 18446744073709551616 = X1) (y2 : M * 2 ^ r / 18446744073709551616 = X2)
    (z1 : wd G q = X1) (z2 : wd G (q + 1) = X2) (z3 : Hid (∀ j, q + 2 ≤ j → wd G j = 0)) (z4 : car P G q = 0) (z5 : Hid (∀ j, car P G j ≠ 0 → j ≤ 33)) :
    Calls Tryd.prog 13 #[.pointer (some ⟨Z, 0, none⟩), .float .f64 b] w (Ends Z 36 0 P G q Q lo hi w) := by
  have em : (A : Int) - 1074 + 1074 = (A : Int) := by omega
  have e1 : (A : Int).tdiv 64 = (q : Int) := by rw [Int.tdiv_eq_ediv_of_nonneg (by omega)]; omega
  have e2 : (A : Int).tmod 64 = (r : Int) := by rw [Int.tmod_eq_emod_of_nonneg (by omega)]; omega
  have e1' : (A : Int) / 64 = (q : Int) := by omega
  have e2' : (A : Int) % 64 = (r : Int) := by omega
  have g0 : (0 : Int) ≤ (q : Int) := by omega
  have g1 : (q : Int) < 33 := by omega
  have g2 : (0 : Int) ≤ (r : Int) := by omega
  have g3 : (r : Int) < 64 := by omega
  have m0 : -(M : Int) < 0 := by omega
  have m1 : (-(M : Int) == 0) = false := by simp; omega
  have x1 : IntKind.u64.wrap ((M : Int) * 2 ^ r) = (X1 : Int) := by
    rw [IntKind.wrap_u64, show (2 : Int) ^ r = ((2 ^ r : Nat) : Int) by simp, ← Int.natCast_mul, ← y1]; omega
  have k1 := word_add P G q
  have k2 := word_add P G (q + 1)
  rw [z1, z4] at k1
  rw [z2] at k2
  change ∀ w, (callFunc 17 #[.int .u64 (wd P q : Nat), .int .u64 (X1 : Nat), .int .u64 0]).run Tryd.prog w = .ok (.value (.tuple #[.int .u64 (wd (P + G) q : Nat), .int .u64 (car P G (q + 1) : Nat)])) w at k1
  obtain ⟨c1, c2⟩ := HM.out.at (q := 36 + q) (by omega) (by omega)
  have HM1 : Hid (Mid w _ Z 36 0 P (P + G) (q + 1) Q lo hi) := ⟨HM.out.step (by omega) rfl rfl⟩
  obtain ⟨q1, eq1⟩ : ∃ q1, q1 = q + 1 := ⟨_, rfl⟩
  obtain ⟨s, es⟩ : ∃ s, s = 64 - r := ⟨_, rfl⟩
  have hs1 := car_le P G (q + 1)
  have hs2 := car_le P G (q + 1 + 1)
  rw [← eq1] at HM1 k2 k1 hs1 hs2
  obtain ⟨C1, eC1⟩ : ∃ C1, C1 = car P G q1 := ⟨_, rfl⟩
  obtain ⟨C2, eC2⟩ : ∃ C2, C2 = car P G (q1 + 1) := ⟨_, rfl⟩
  rw [← eC1] at k1 k2 hs1
  rw [← eC2] at k2 hs2
  have HC2 : Hid (C2 = car P G (q1 + 1)) := ⟨eC2⟩
  have e3 : (q : Int) + 1 = (q1 : Int) := by omega
  have f0 : (0 : Int) ≤ (q1 : Int) := by omega
  have f1 : (q1 : Int) < 34 := by omega
  have x2 : (M : Int) / 18446744073709551616 = (X2 : Int) := by rw [← y2, hr0]; simp
  have X1M : M = X1 := by rw [← y1, hr0]; simp; omega
  subst X1M
  subst hr0
  have Heq1 : Hid (q1 = q + 1) := ⟨eq1⟩
  clear y1 y2 es eq1 eC1 eC2
  clear hM0 hq hr hA z1 z2 z4 
  go_enter Tryd.func13, Tryd.ntmps13
  go_wp2_with (go_at_call 16; refine HW.out.mono ?_; rintro e w' ⟨rfl, rfl⟩)
  go_region
  go_wp2
  obtain ⟨w1, ew⟩ : ∃ y, y = (w.setCell ⟨Z, 36 + q, none⟩ (.int .u64 (wd (P + G) q : Nat))).drew := ⟨_, rfl⟩
  rw [← ew] at HM1 ⊢
  clear ew c1 c2 k1
  obtain ⟨c1, c2⟩ := HM1.out.at (q := 36 + q1) (by omega) (by omega)
  have HM2 : Hid (Mid w _ Z 36 0 P (P + G) (q1 + 1) Q lo hi) := ⟨HM1.out.step (by omega) rfl rfl⟩
  go_region
  go_wp2
  obtain ⟨w2, ew⟩ : ∃ y, y = (w1.setCell ⟨Z, 36 + q1, none⟩ (.int .u64 (wd (P + G) q1 : Nat))).drew := ⟨_, rfl⟩
  rw [← ew] at HM2 ⊢
  clear ew c1 c2 k2 x1 x2 m1 HM1 HM
  go_loopw [10, 11] (fun c e wr => ∃ j cc : Nat, q + 2 ≤ j ∧ j ≤ 34 ∧ cc ≤ 1 ∧ e = .int .i64 j ∧ c = .int .u64 cc ∧ Hid (cc = car P G j) ∧ Hid (Mid w wr Z 36 0 P (P + G) j Q lo hi)) (fun _ e _ => 36 - (intOf e).toNat)
  case atStart =>
    refine ⟨q + 2, C2, Nat.le_refl _, by omega, hs2, by go_num, rfl, ⟨?_⟩, ⟨?_⟩⟩
    · have h1 := HC2.out; rw [Heq1.out] at h1; exact h1
    · have h1 := HM2.out; rw [Heq1.out] at h1; exact h1
  case round =>
    obtain ⟨j, cc, hj, hj2, hcc, rfl, rfl, HC, HMj⟩ := hrel
    clear HM2 HC2
    have hc : cc = 0 ∨ cc = 1 := by omega
    rcases hc with rfl | rfl
    · have c1 := HMj.out.low
      have c2 := HMj.out.lowf
      have c3 := HMj.out.high
      have c4 := HMj.out.highf
      have HL := HMj.out.setLow q
      have d1 := HL.high
      have d2 := HL.highf
      have A1 : Hid (hi ≤ j → Mid w (wr.setCell ⟨Z, 73, none⟩ (.int .i64 (j : Nat))) Z 36 0 P (P + G) j Q lo (max hi j)) := ⟨fun h => by rw [Nat.max_eq_right h]; exact HMj.out.setHigh j⟩
      have A2 : Hid (j ≤ hi → Mid w (wr.setCell ⟨Z, 73, none⟩ (.int .i64 (hi : Nat))) Z 36 0 P (P + G) j Q lo (max hi j)) := ⟨fun h => by rw [Nat.max_eq_left h]; exact HMj.out.setHigh hi⟩
      have B1 : Hid (hi ≤ j → Mid w ((wr.setCell ⟨Z, 72, none⟩ (.int .i64 (q : Nat))).setCell ⟨Z, 73, none⟩ (.int .i64 (j : Nat))) Z 36 0 P (P + G) j Q q (max hi j)) := ⟨fun h => by rw [Nat.max_eq_right h]; exact HL.setHigh j⟩
      have B2 : Hid (j ≤ hi → Mid w ((wr.setCell ⟨Z, 72, none⟩ (.int .i64 (q : Nat))).setCell ⟨Z, 73, none⟩ (.int .i64 (hi : Nat))) Z 36 0 P (P + G) j Q q (max hi j)) := ⟨fun h => by rw [Nat.max_eq_left h]; exact HL.setHigh hi⟩
      have HJ : Hid (q + 2 ≤ j ∧ j ≤ 34 ∧ car P G j = 0) := ⟨hj, hj2, HC.out.symm⟩
      clear HL HMj HC
      by_cases h0 : hi = 0
      · have HLO : Hid (lowOf lo hi q = q) := ⟨by unfold lowOf; rw [if_pos (Or.inl h0)]⟩
        subst h0
        go_wp2
        all_goals
          go_end0
          exact ⟨rfl, j, HJ.out.1, HJ.out.2.1, HJ.out.2.2, by rw [HLO.out]; first | exact B1.out (by omega) | exact B2.out (by omega)⟩
      · have n0 : ((hi : Int) == 0) = false := by simp; omega
        by_cases h1 : q < lo
        · have HLO : Hid (lowOf lo hi q = q) := ⟨by unfold lowOf; rw [if_pos (Or.inr h1)]⟩
          have n1 : (q : Int) < (lo : Int) := by omega
          go_wp2
          all_goals
            go_end0
            exact ⟨rfl, j, HJ.out.1, HJ.out.2.1, HJ.out.2.2, by rw [HLO.out]; first | exact B1.out (by omega) | exact B2.out (by omega)⟩
        · have HLO : Hid (lowOf lo hi q = lo) := ⟨by unfold lowOf; rw [if_neg (by omega)]⟩
          have n1 : ¬ (q : Int) < (lo : Int) := by omega
          go_wp2
          all_goals
            go_end0
            exact ⟨rfl, j, HJ.out.1, HJ.out.2.1, HJ.out.2.2, by rw [HLO.out]; first | exact A1.out (by omega) | exact A2.out (by omega)⟩
    · have hj3 : j ≤ 33 := z5.out j (by rw [← HC.out]; omega)
      have k3 := word_add P G j
      rw [z3.out j hj, ← HC.out] at k3
      change ∀ w, (callFunc 17 #[.int .u64 (wd P j : Nat), .int .u64 0, .int .u64 1]).run Tryd.prog w = .ok (.value (.tuple #[.int .u64 (wd (P + G) j : Nat), .int .u64 (car P G (j + 1) : Nat)])) w at k3
      have hs3 := car_le P G (j + 1)
      obtain ⟨C3, eC3⟩ : ∃ C3, C3 = car P G (j + 1) := ⟨_, rfl⟩
      rw [← eC3] at k3 hs3
      have HC3 : Hid (C3 = car P G (j + 1)) := ⟨eC3⟩
      have j0 : (0 : Int) ≤ (j : Int) := by omega
      have j1 : (j : Int) < 34 := by omega
      obtain ⟨c1, c2⟩ := HMj.out.at (q := 36 + j) (by omega) (by omega)
      have HM3 : Hid (Mid w _ Z 36 0 P (P + G) (j + 1) Q lo hi) := ⟨HMj.out.step (by omega) rfl rfl⟩
      clear eC3 HC HMj
      go_wp2
      go_region
      go_wp2
      go_roundw
      case rel => exact ⟨j + 1, C3, by omega, by omega, hs3, by go_num, rfl, HC3, HM3⟩
      case measure => simp [intOf]; omega
end Go.Proofs.Qxb6608777aDoor
