import Derived.Test.Qxb6608558aAfter
import Derived.Test.Qxb6608558aOrder
import Derived.LoopN
namespace Go.Proofs.Qxb6608558a
open Go.RowKit

/-! ### The empty list -/
set_option maxHeartbeats 400000 in
theorem tooBig_none (a : Option Addr) (cap : Nat) (w : World) : Calls Try.prog 21 #[.slice a 0 cap, .int .i64 0] w fun e w' => e = .returned (.bool false) ∧ w' = w := by
  go_enter Try.func21, Try.ntmps21
  go_wp2
  refine wp_loop_rounds 1 ?_
  rw [rounds_succ]
  go_wp2
  go_ret
  exact ⟨rfl, rfl⟩
set_option maxHeartbeats 400000 in
theorem bytes_none (a : Option Addr) (cap : Nat) (k : Int) (w : World) : Calls Try.prog 30 #[.slice a 0 cap, .int .i64 k] w fun e w' => e = .returned (.bool true) ∧ w' = w := by
  go_enter Try.func30, Try.ntmps30
  go_wp2
  refine wp_loop_rounds 1 ?_
  rw [rounds_succ]
  go_wp2
  go_ret
  exact ⟨rfl, rfl⟩
set_option maxHeartbeats 400000 in
theorem law_none (a : Option Addr) (cap : Nat) (k : Int) (w : World) : Calls Try.prog 7 #[.slice a 0 cap, .int .i64 k] w fun e w' => e = .returned (.bool true) ∧ Below w.heap.size w w' := by
  by_cases hk : k < 0
  · go_enter Try.func7, Try.ntmps7
    go_wp2_with (first
      | (go_at_call 30; refine (bytes_none _ _ _ _).mono ?_; rintro e w' ⟨rfl, rfl⟩)
      | (go_at_call 21; refine (tooBig_none _ _ _).mono ?_; rintro e w' ⟨rfl, rfl⟩))
    go_ret
    exact ⟨rfl, Below.refl _ _⟩
  · have hk' : 0 ≤ k := by omega
    go_enter Try.func7, Try.ntmps7
    go_wp2_with (first
      | (go_at_call 30; refine (bytes_none _ _ _ _).mono ?_; rintro e w' ⟨rfl, rfl⟩)
      | (go_at_call 21; refine (tooBig_none _ _ _).mono ?_; rintro e w' ⟨rfl, rfl⟩))
    go_ret
    exact ⟨rfl, Below.refl _ _⟩

/-! ### The list that holds something -/
theorem Built.row {w : World} {B len K : Nat} {ID : Nat → ByteArray} {HB NX : Nat → Bool} {NS : Nat → Int} {wr : World} (h : Built w B len len ID HB NX NS wr) {r2 : Int} (hr2 : r2 = rankIn (HB K) (NX K)) :
    RowC wr B len r2 (NS K % 1000000000) (NS K / 1000000000) (ID K) (cmpAt ID HB NX NS K) := fun i hi => by
  obtain ⟨hb, nx, hr, hst⟩ := h.laid i hi
  exact ⟨ID i, hb, nx, _, _, hst, by omega, by omega, by rw [cmpP_pmod, hr, hr2]; rfl⟩

set_option maxHeartbeats 4000000 in
theorem law_some (b off len cap : Nat) (k : Int) (ID : Nat → ByteArray) (HB NX : Nat → Bool) (NS : Nat → Int) (w : World) (hm : len ≤ maxLen) (hI : InAt w b off len ID HB NX NS) (hns : ∀ i, i < len → -9223372036854775808 ≤ NS i ∧ NS i ≤ 9223372036854775807) (hbw : b < w.heap.size) :
    Calls Try.prog 7 #[.slice (some ⟨b, off, none⟩) len cap, .int .i64 k] w fun e w' => e = .returned (.bool true) ∧ Below w.heap.size w w' := by
  go_enter Try.func7, Try.ntmps7
  go_wp2_with fail
  refine (bytes_any b off len cap k ID HB NX NS w hm hI).mono ?_
  rintro e w' ⟨r, rfl, hS, hw⟩
  subst hw
  cases r
  · go_wp2
    go_ret
    exact ⟨rfl, Below.refl _ _⟩
  replace hS := hS rfl
  go_wp2_with fail
  refine (tooBig_any b off len cap ID HB NX NS w hm hI hS).mono ?_
  rintro e w' ⟨r, rfl, hL, hw⟩
  subst hw
  cases r
  rotate_left
  · go_wp2
    go_ret
    exact ⟨rfl, Below.refl _ _⟩
  replace hL := hL rfl
  by_cases hk0 : k < 0
  · go_wp2
    go_ret
    exact ⟨rfl, Below.refl _ _⟩
  by_cases hk1 : (len : Int) ≤ k
  · go_wp2
    go_ret
    exact ⟨rfl, Below.refl _ _⟩
  obtain ⟨K, rfl⟩ := Int.eq_ofNat_of_zero_le (show 0 ≤ k by omega)
  have hK : K < len := by omega
  clear hk0 hk1 hm
  go_wp2_with fail
  refine (listOK_any b off len cap ID HB NX NS w hL hI hS hbw).mono ?_
  rintro e w1 ⟨r, rfl, hO, hB1⟩
  cases r
  · go_wp2
    go_ret
    exact ⟨rfl, hB1⟩
  replace hO := hO rfl
  have hI1 : InAt w1 b off len ID HB NX NS := fun i hi => by
    obtain ⟨c0, c1, c2, c3, hz⟩ := hI i hi
    exact ⟨(hB1.cell (p := ⟨b, _, none⟩) hbw).trans c0, (hB1.cell (p := ⟨b, _, none⟩) hbw).trans c1, (hB1.cell (p := ⟨b, _, none⟩) hbw).trans c2, (hB1.cell (p := ⟨b, _, none⟩) hbw).trans c3, hz⟩
  go_wp2_with fail
  refine (build_any b off len cap ID HB NX NS w1 hL hI1 (fun i hi => (hO i hi).1) hns (Nat.lt_of_lt_of_le hbw hB1.size)).mono ?_
  rintro e w2 ⟨rfl, hT⟩
  have hB2 : Below w.heap.size w w2 := Bnx hB1 hT.below
  obtain ⟨hb, nx, hr, hst⟩ := hT.laid K hK
  have hR := hT.row (K := K) hr
  have hroom := hT.room
  obtain ⟨q0, q1, q2, q3, q4, q5, q6, q7⟩ := hst
  have g0 : (0 : Int) ≤ (K : Int) := by omega
  have g1 : (K : Int) < (len : Int) := by omega
  have HR : Hid (rank hb nx = rankIn (HB K) (NX K)) := hr
  have lo : Hid (∀ i, i < K → cmpAt ID HB NX NS K i < 0) := fun i hi => cmpAt_lo hO hK i hi
  have mid : Hid (cmpAt ID HB NX NS K K = 0) := cmpAt_mid ID HB NX NS K
  have hi : Hid (∀ i, K < i → i < len → 0 < cmpAt ID HB NX NS K i) := fun i h1 h2 => cmpAt_hi hO i h1 h2
  clear hr hO hS hI hns hI1
  have hB3 : ∀ d1 d2 : Array Value, Below w2.heap.size w2 ((w2.alloc (.cells d1 40)).alloc (.cells d2 36)) := fun d1 d2 => Bal (Bal (Below.refl _ _) _) _
  by_cases hlast : len = K + 1
  · have HL : Hid (len = K + 1) := hlast
    clear hlast
    go_wp2_with (go_at_call 16; refine (placeX_any _ _ _ _ _ _).mono ?_; rintro e w3 ⟨rfl, d1, d2, rfl⟩)
    refine (after_last w1.heap.size len K _ _ _ _ (cmpAt ID HB NX NS K) _ hL (by simp; omega) (by omega) (by omega) (fun i hi => ?_) hK lo mid hi HL.out).mono ?_
    · obtain ⟨id, hb', nx', n, s, hst, a0, a1, hc⟩ := hR i hi
      exact ⟨id, hb', nx', n, s, hst.below (hB3 d1 d2) hroom, a0, a1, hc⟩
    rintro e w4 ⟨rfl, hB4⟩
    have hB5 := Bnx hB2 (Bnx (hB3 d1 d2) hB4)
    go_wp2_with fail
    have e1 : (K : Int) + 1 = (len : Int) := by have := HL.out; omega
    rw [e1]
    clear e1
    refine (suffix_last w1.heap.size len _ hL).mono ?_
    rintro e w5 ⟨rfl, nq, rfl⟩
    go_wp2
    go_ret
    exact ⟨rfl, Bdrew hB5 _⟩
  · have hmm : K + 1 < len := by omega
    clear hlast
    go_wp2_with (go_at_call 16; refine (placeX_any _ _ _ _ _ _).mono ?_; rintro e w3 ⟨rfl, d1, d2, rfl⟩)
    refine (after_mid w1.heap.size len K _ _ _ _ (cmpAt ID HB NX NS K) _ hL (by simp; omega) (by omega) (by omega) (fun i hi => ?_) hK lo mid hi hmm).mono ?_
    · obtain ⟨id, hb', nx', n, s, hst, a0, a1, hc⟩ := hR i hi
      exact ⟨id, hb', nx', n, s, hst.below (hB3 d1 d2) hroom, a0, a1, hc⟩
    rintro e w4 ⟨rfl, hB4⟩
    have hB5 := Bnx hB2 (Bnx (hB3 d1 d2) hB4)
    go_wp2_with fail
    have e1 : (K : Int) + 1 = ((K + 1 : Nat) : Int) := by omega
    rw [e1]
    clear e1
    refine (suffix_mid w1.heap.size len (K + 1) _ hL hmm).mono ?_
    rintro e w5 ⟨rfl, nq, rfl⟩
    go_wp2
    go_ret
    exact ⟨rfl, Bdrew hB5 _⟩
end Go.Proofs.Qxb6608558a
