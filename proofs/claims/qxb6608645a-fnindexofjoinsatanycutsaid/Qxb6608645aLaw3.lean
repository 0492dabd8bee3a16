import Derived.Test.Qxb6608645aIndex
namespace Go.Proofs.Qxb6608645a
open Go.RowKit

/-- The part behind a cut. -/
def shf (c : Nat) (S : Nat → ByteArray) (i : Nat) : ByteArray := S (c + i)
/-- What the two parts say of the whole. -/
def wantJ (c : Nat) (ra rb : Int) : Int := if 0 ≤ ra then ra else if 0 ≤ rb then c + rb else -1
theorem join_idx {len c : Nat} {S : Nat → ByteArray} {s : ByteArray} {r ra rb : Int} (hc : c ≤ len) (h : IsIdx len S s r) (ha : IsIdx c S s ra) (hb : IsIdx (len - c) (shf c S) s rb) : r = wantJ c ra rb := by
  unfold wantJ
  rcases ha with ⟨rfl, na⟩ | ⟨a, rfl, ha, ya, na⟩
  · rw [if_neg (by omega)]
    rcases hb with ⟨rfl, nb⟩ | ⟨k, rfl, hk, yk, nk⟩
    · rw [if_neg (by omega)]
      rcases h with ⟨h, _⟩ | ⟨j, rfl, hj, yj, _⟩
      · exact h
      · by_cases hjc : j < c
        · rw [na j hjc] at yj; cases yj
        · have := nb (j - c) (by omega)
          unfold shf at this
          rw [show c + (j - c) = j by omega, yj] at this; cases this
    · rw [if_pos (by omega)]
      unfold shf at yk nk
      rcases h with ⟨_, n⟩ | ⟨j, rfl, hj, yj, nj⟩
      · rw [n (c + k) (by omega)] at yk; cases yk
      · rcases Nat.lt_trichotomy j (c + k) with g | g | g
        · by_cases hjc : j < c
          · rw [na j hjc] at yj; cases yj
          · have := nk (j - c) (by omega)
            rw [show c + (j - c) = j by omega, yj] at this; cases this
        · omega
        · rw [nj (c + k) g] at yk; cases yk
  · rw [if_pos (by omega)]
    rcases h with ⟨_, n⟩ | ⟨j, rfl, hj, yj, nj⟩
    · rw [n a (by omega)] at ya; cases ya
    · rcases Nat.lt_trichotomy j a with g | g | g
      · rw [na j g] at yj; cases yj
      · omega
      · rw [nj a g] at ya; cases ya

set_option maxHeartbeats 1000000 in
theorem isFirst_hit (b off len cap R : Nat) (s : ByteArray) (S : Nat → ByteArray) (w : World) (hl : len ≤ 65536) (hI : ∀ i, i < len → w.cell? ⟨b, off + i, none⟩ = some (.string (S i))) (hR : R < len) (hy : eqS (S R) s = true) (hno : ∀ i, i < R → eqS (S i) s = false) :
    Calls Try.prog 9 #[.slice (some ⟨b, off, none⟩) len cap, .string s, .int .i64 R] w fun e w' => e = .returned (.bool true) ∧ w' = w := by
  have hy' : ((S R).toList == s.toList) = true := hy
  have HI : Hid (∀ i, i < len → w.cell? ⟨b, off + i, none⟩ = some (.string (S i))) := hI
  have HN : Hid (∀ i, i < R → eqS (S i) s = false) := hno
  have c0 := hI R hR
  clear hI hno hy
  have g0 : (0 : Int) ≤ (R : Int) := by omega
  have g1 : (R : Int) < (len : Int) := by omega
  go_enter Try.func9, Try.ntmps9
  go_wp2
  go_loop [8] (fun i => ∃ k : Nat, k ≤ R ∧ i = .int .i64 k) (fun i => R - (intOf i).toNat)
  case atStart => exact ⟨0, Nat.zero_le _, rfl⟩
  case round =>
    obtain ⟨k, hk, rfl⟩ := hrel
    by_cases hlt : k < R
    · have c1 := HI.out k (by omega)
      have h1 : ((S k).toList == s.toList) = false := HN.out k hlt
      have g2 : (k : Int) < (len : Int) := by omega
      go_wp2
      go_round
      case rel => exact ⟨k + 1, by omega, by go_num⟩
      case measure => simp [intOf]; omega
    · go_wp2
      go_ret
      exact ⟨rfl, rfl⟩
set_option maxHeartbeats 1000000 in
theorem isFirst_miss (b off len cap : Nat) (s : ByteArray) (S : Nat → ByteArray) (w : World) (hl : len ≤ 65536) (hI : ∀ i, i < len → w.cell? ⟨b, off + i, none⟩ = some (.string (S i))) (hno : ∀ i, i < len → eqS (S i) s = false) :
    Calls Try.prog 9 #[.slice (some ⟨b, off, none⟩) len cap, .string s, .int .i64 (-1)] w fun e w' => e = .returned (.bool true) ∧ w' = w := by
  have HI : Hid (∀ i, i < len → w.cell? ⟨b, off + i, none⟩ = some (.string (S i))) := hI
  have HN : Hid (∀ i, i < len → eqS (S i) s = false) := hno
  clear hI hno
  go_enter Try.func9, Try.ntmps9
  go_wp2
  go_loop [8] (fun i => ∃ k : Nat, k ≤ len ∧ i = .int .i64 k) (fun i => len - (intOf i).toNat)
  case atStart => exact ⟨0, Nat.zero_le _, rfl⟩
  case round =>
    obtain ⟨k, hk, rfl⟩ := hrel
    by_cases hlt : k < len
    · have c1 := HI.out k (by omega)
      have h1 : ((S k).toList == s.toList) = false := HN.out k hlt
      have g2 : (k : Int) < (len : Int) := by omega
      go_wp2
      go_round
      case rel => exact ⟨k + 1, by omega, by go_num⟩
      case measure => simp [intOf]; omega
    · go_wp2
      go_ret
      exact ⟨rfl, rfl⟩
set_option maxHeartbeats 1000000 in
theorem isFirst_zero (a : Option Addr) (cap : Nat) (s : ByteArray) (w : World) :
    Calls Try.prog 9 #[.slice a 0 cap, .string s, .int .i64 (-1)] w fun e w' => e = .returned (.bool true) ∧ w' = w := by
  go_enter Try.func9, Try.ntmps9
  go_wp2
  refine wp_loop_rounds 1 ?_
  rw [rounds_succ]
  go_wp2
  go_ret
  exact ⟨rfl, rfl⟩

set_option maxRecDepth 100000 in
set_option maxHeartbeats 4000000 in
theorem law3_some (b off len cap : Nat) (at0 : Int) (s : ByteArray) (S : Nat → ByteArray) (w : World) (hlc : len ≤ cap) (hm : len ≤ maxLen) (hs : s.size ≤ maxLen) (hI : StrAt w b off len S) (hbw : b < w.heap.size) :
    Calls Try.prog 3 #[.slice (some ⟨b, off, none⟩) len cap, .int .i64 at0, .string s] w fun e w' => e = .returned (.bool true) ∧ Below w.heap.size w w' := by
  go_enter Try.func3, Try.ntmps3
  go_wp2_with fail
  refine (bytes5_any b off len cap at0 s S w hm hs hI).mono ?_
  rintro e w' ⟨r, rfl, hS, hw⟩
  subst hw
  cases r
  · go_wp2
    go_ret
    exact ⟨rfl, Below.refl _ _⟩
  replace hS := hS rfl
  go_wp2_with fail
  refine (tooBig_any b off len cap s S w hm hI hS).mono ?_
  rintro e w' ⟨r, rfl, hL, hw⟩
  subst hw
  cases r
  rotate_left
  · go_wp2
    go_ret
    exact ⟨rfl, Below.refl _ _⟩
  replace hL := hL rfl
  by_cases hk0 : at0 < 0
  · go_wp2
    go_ret
    exact ⟨rfl, Below.refl _ _⟩
  by_cases hk1 : (len : Int) < at0
  · go_wp2
    go_ret
    exact ⟨rfl, Below.refl _ _⟩
  obtain ⟨C, rfl⟩ := Int.eq_ofNat_of_zero_le (show 0 ≤ at0 by omega)
  have hC : C ≤ len := by omega
  have hI2 : Hid (∀ i, i < len → w.cell? ⟨b, off + i, none⟩ = some (.string (S i))) := fun i hi => (hI i hi).1
  clear hk0 hk1 hm hs hS hI
  go_wp2_with fail
  refine (rosterS b off len cap S w (by omega) hI2.out hbw).mono ?_
  rintro e w1 ⟨D, rfl, hR, hB1⟩
  go_wp2_with fail
  refine (indexOf_any D len s S w1 (by omega) hR).mono ?_
  rintro e w2 ⟨r, rfl, hr, hB2⟩
  replace hB2 := Bnx hB1 hB2
  have Hr : Hid (IsIdx len S s r) := hr
  clear hB1 hR hr
  have g0 : C ≤ cap := by omega
  go_wp2_with fail
  refine (rosterS b off C cap S w2 (by omega) (fun i hi => (hB2.cell (p := ⟨b, _, none⟩) hbw).trans (hI2.out i (by omega))) (Nat.lt_of_lt_of_le hbw hB2.size)).mono ?_
  rintro e w3 ⟨D2, rfl, hR, hB3⟩
  go_wp2_with fail
  refine (indexOf_any D2 C s S w3 (by omega) hR).mono ?_
  rintro e w4 ⟨ra, rfl, hra, hB4⟩
  replace hB4 := Bnx (Bnx hB2 hB3) hB4
  have Hra : Hid (IsIdx C S s ra) := hra
  clear hB3 hR hra hB2
  by_cases hcc : C = cap
  · have hcl : C = len := by omega
    subst hcc
    subst hcl
    go_wp2_with fail
    have ez : Hid (C - C = 0) := by show C - C = 0; omega
    refine (rosterS b off 0 0 (shf C S) w4 (by omega) (fun i hi => absurd hi (Nat.not_lt_zero i)) (Nat.lt_of_lt_of_le hbw hB4.size)).mono ?_
    rintro e w5 ⟨D3, rfl, hR, hB5⟩
    go_wp2_with fail
    refine (indexOf_any D3 0 s (shf C S) w5 (by omega) hR).mono ?_
    rintro e w6 ⟨rb, rfl, hrb, hB6⟩
    replace hB6 := Bnx (Bnx hB4 hB5) hB6
    have HE : Hid (r = wantJ C ra rb) := join_idx hC Hr.out Hra.out (by rw [ez.out]; exact hrb)
    have hrb1 : rb ≤ 65536 := by
      rcases hrb with ⟨h, _⟩ | ⟨k, h, hk, _⟩ <;> omega
    clear hB5 hR hrb hB4 Hra
    have HW : Hid (∀ i, i < C → w6.cell? ⟨b, off + i, none⟩ = some (.string (S i))) := fun i hi => (hB6.cell (p := ⟨b, _, none⟩) hbw).trans (hI2.out i hi)
    rcases Hr.out with ⟨rfl, hno⟩ | ⟨R, rfl, hR, hy, hno⟩
    · have HN : Hid (∀ i, i < C → eqS (S i) s = false) := hno
      clear hno Hr hI2
      have p1 : ¬ 0 ≤ ra := fun h => by have := HE.out; rw [wantJ, if_pos h] at this; omega
      have p2 : ¬ 0 ≤ rb := fun h => by have := HE.out; rw [wantJ, if_neg p1, if_pos h] at this; omega
      go_wp2_with fail
      refine (isFirst_miss b off C C s S w6 hL HW.out HN.out).mono ?_
      rintro e w7 ⟨rfl, rfl⟩
      go_wp2
      go_ret
      exact ⟨rfl, hB6⟩
    · have HN : Hid (∀ i, i < R → eqS (S i) s = false) := hno
      have HY : Hid (eqS (S R) s = true) := hy
      clear hno Hr hy hI2
      by_cases p1 : 0 ≤ ra
      · obtain rfl : (R : Int) = ra := by have := HE.out; rwa [wantJ, if_pos p1] at this
        go_wp2_with fail
        refine (isFirst_hit b off C C R s S w6 hL HW.out hR HY.out HN.out).mono ?_
        rintro e w7 ⟨rfl, rfl⟩
        go_wp2
        go_ret
        exact ⟨rfl, hB6⟩
      · by_cases p2 : 0 ≤ rb
        · have ee : (C : Int) + rb = (R : Int) := by have := HE.out; rw [wantJ, if_neg p1, if_pos p2] at this; exact this.symm
          exfalso; omega
        · exfalso
          have := HE.out
          rw [wantJ, if_neg p1, if_neg p2] at this
          omega
  · have hcc' : C < cap := by omega
    go_wp2_with fail
    refine (rosterS b (off + C) (len - C) (cap - C) (shf C S) w4 (by omega) (fun i hi => by rw [Nat.add_assoc]; exact (hB4.cell (p := ⟨b, _, none⟩) hbw).trans (hI2.out (C + i) (by omega))) (Nat.lt_of_lt_of_le hbw hB4.size)).mono ?_
    rintro e w5 ⟨D3, rfl, hR, hB5⟩
    go_wp2_with fail
    refine (indexOf_any D3 (len - C) s (shf C S) w5 (by omega) hR).mono ?_
    rintro e w6 ⟨rb, rfl, hrb, hB6⟩
    replace hB6 := Bnx (Bnx hB4 hB5) hB6
    have HE : Hid (r = wantJ C ra rb) := join_idx hC Hr.out Hra.out hrb
    have hrb1 : rb ≤ 65536 := by
      rcases hrb with ⟨h, _⟩ | ⟨k, h, hk, _⟩ <;> omega
    clear hB5 hR hrb hB4 Hra
    have HW : Hid (∀ i, i < len → w6.cell? ⟨b, off + i, none⟩ = some (.string (S i))) := fun i hi => (hB6.cell (p := ⟨b, _, none⟩) hbw).trans (hI2.out i hi)
    rcases Hr.out with ⟨rfl, hno⟩ | ⟨R, rfl, hR, hy, hno⟩
    · have HN : Hid (∀ i, i < len → eqS (S i) s = false) := hno
      clear hno Hr hI2
      have p1 : ¬ 0 ≤ ra := fun h => by have := HE.out; rw [wantJ, if_pos h] at this; omega
      have p2 : ¬ 0 ≤ rb := fun h => by have := HE.out; rw [wantJ, if_neg p1, if_pos h] at this; omega
      go_wp2_with fail
      refine (isFirst_miss b off len cap s S w6 hL HW.out HN.out).mono ?_
      rintro e w7 ⟨rfl, rfl⟩
      go_wp2
      go_ret
      exact ⟨rfl, hB6⟩
    · have HN : Hid (∀ i, i < R → eqS (S i) s = false) := hno
      have HY : Hid (eqS (S R) s = true) := hy
      clear hno Hr hy hI2
      by_cases p1 : 0 ≤ ra
      · obtain rfl : (R : Int) = ra := by have := HE.out; rwa [wantJ, if_pos p1] at this
        go_wp2_with fail
        refine (isFirst_hit b off len cap R s S w6 hL HW.out hR HY.out HN.out).mono ?_
        rintro e w7 ⟨rfl, rfl⟩
        go_wp2
        go_ret
        exact ⟨rfl, hB6⟩
      · by_cases p2 : 0 ≤ rb
        · have ee : (C : Int) + rb = (R : Int) := by have := HE.out; rw [wantJ, if_neg p1, if_pos p2] at this; exact this.symm
          go_wp2_with fail
          refine (isFirst_hit b off len cap R s S w6 hL HW.out hR HY.out HN.out).mono ?_
          rintro e w7 ⟨rfl, rfl⟩
          go_wp2
          go_ret
          exact ⟨rfl, hB6⟩
        · exfalso
          have := HE.out
          rw [wantJ, if_neg p1, if_neg p2] at this
          omega


set_option maxRecDepth 100000 in
set_option maxHeartbeats 4000000 in
theorem law3_none (a : Option Addr) (cap : Nat) (at0 : Int) (s : ByteArray) (S : Nat → ByteArray) (w : World) (ha : a = none → cap = 0) (hs : s.size ≤ maxLen) (hRos : ∀ w cap', (a = none → cap' = 0) → Calls Try.prog 7 #[.slice a 0 cap'] w (Gives 0 S w)) :
    Calls Try.prog 3 #[.slice a 0 cap, .int .i64 at0, .string s] w fun e w' => e = .returned (.bool true) ∧ Below w.heap.size w w' := by
  have HR : Hid (∀ w cap', (a = none → cap' = 0) → Calls Try.prog 7 #[.slice a 0 cap'] w (Gives 0 S w)) := hRos
  clear hRos
  go_enter Try.func3, Try.ntmps3
  go_wp2_with fail
  refine (bytes5_none a cap at0 s w hs).mono ?_
  rintro e w' ⟨r, rfl, hS, hw⟩
  subst hw
  cases r
  · go_wp2
    go_ret
    exact ⟨rfl, Below.refl _ _⟩
  replace hS := hS rfl
  go_wp2_with fail
  refine (tooBig_none a cap s w hS).mono ?_
  rintro e w' ⟨r, rfl, _, hw⟩
  subst hw
  cases r
  rotate_left
  · go_wp2
    go_ret
    exact ⟨rfl, Below.refl _ _⟩
  by_cases hk0 : at0 < 0
  · go_wp2
    go_ret
    exact ⟨rfl, Below.refl _ _⟩
  by_cases hk1 : 0 < at0
  · go_wp2
    go_ret
    exact ⟨rfl, Below.refl _ _⟩
  obtain rfl : at0 = 0 := by omega
  clear hk0 hk1 hs hS
  have hm1 : ∀ {r : Int}, IsIdx 0 S s r → r = -1 := fun h => by
    rcases h with ⟨h, _⟩ | ⟨k, _, hk, _⟩
    · exact h
    · omega
  have HM : Hid (∀ {r : Int}, IsIdx 0 S s r → r = -1) := hm1
  clear hm1
  go_wp2_with fail
  refine (HR.out w cap ha).mono ?_
  rintro e w1 ⟨D, rfl, hR, hB1⟩
  go_wp2_with fail
  refine (indexOf_any D 0 s S w1 (by omega) hR).mono ?_
  rintro e w2 ⟨r, rfl, hr, hB2⟩
  replace hB2 := Bnx hB1 hB2
  obtain rfl := HM.out hr
  clear hB1 hR hr
  go_wp2_with fail
  refine (HR.out w2 cap ha).mono ?_
  rintro e w3 ⟨D2, rfl, hR, hB3⟩
  go_wp2_with fail
  refine (indexOf_any D2 0 s S w3 (by omega) hR).mono ?_
  rintro e w4 ⟨ra, rfl, hra, hB4⟩
  replace hB4 := Bnx (Bnx hB2 hB3) hB4
  obtain rfl := HM.out hra
  clear hB3 hR hra hB2
  go_wp2_with fail
  refine (HR.out w4 cap ha).mono ?_
  rintro e w5 ⟨D3, rfl, hR, hB5⟩
  go_wp2_with fail
  refine (indexOf_any D3 0 s S w5 (by omega) hR).mono ?_
  rintro e w6 ⟨rb, rfl, hrb, hB6⟩
  replace hB6 := Bnx (Bnx hB4 hB5) hB6
  obtain rfl := HM.out hrb
  clear hB5 hR hrb hB4
  go_wp2_with fail
  refine (isFirst_zero a cap s w6).mono ?_
  rintro e w7 ⟨rfl, rfl⟩
  go_wp2
  go_ret
  exact ⟨rfl, hB6⟩
end Go.Proofs.Qxb6608645a
