import Derived.Test.Qxb6608645aGrown
namespace Go.Proofs.Qxb6608645a
open Go.RowKit
set_option maxRecDepth 100000 in
set_option maxHeartbeats 4000000 in
theorem law4_some (b off len cap : Nat) (at0 : Int) (s : ByteArray) (S : Nat → ByteArray) (w : World) (hm : len ≤ maxLen) (hs : s.size ≤ maxLen) (hI : StrAt w b off len S) (hbw : b < w.heap.size) :
    Calls Try.prog 4 #[.slice (some ⟨b, off, none⟩) len cap, .int .i64 at0, .string s] w fun e w' => e = .returned (.bool true) ∧ Below w.heap.size w w' := by
  obtain ⟨i0, hi0, hz0, hz1, hz2⟩ := info_parts info9
  go_enter Try.func4, Try.ntmps4
  go_wp2_with fail
  refine (bytes10_any b off len cap at0 s S w hm hs hI).mono ?_
  rintro e w' ⟨r, rfl, hS, hw⟩
  subst hw
  cases r
  · go_wp2
    go_ret
    exact ⟨rfl, Below.refl _ _⟩
  replace hS := hS rfl
  go_wp2_with fail
  refine (tooBig_any b off len cap s S w hm hI hS).mono ?_
  rintro e w' ⟨r, rfl, hL, hw⟩
  subst hw
  cases r
  rotate_left
  · go_wp2
    go_ret
    exact ⟨rfl, Below.refl _ _⟩
  replace hL := hL rfl
  by_cases hk0 : at0 < 0
  · go_wp2
    go_ret
    exact ⟨rfl, Below.refl _ _⟩
  by_cases hk1 : (len : Int) < at0
  · go_wp2
    go_ret
    exact ⟨rfl, Below.refl _ _⟩
  obtain ⟨A, rfl⟩ := Int.eq_ofNat_of_zero_le (show 0 ≤ at0 by omega)
  have hA : A ≤ len := by omega
  clear hk0 hk1 hm hs hS
  go_wp2_with fail
  refine (rosterS b off len cap S w (by omega) (fun i hi => (hI i hi).1) hbw).mono ?_
  rintro e w1 ⟨D, rfl, hR, hB1⟩
  go_wp2_with fail
  refine (indexOf_any D len s S w1 (by omega) hR).mono ?_
  rintro e w2 ⟨r, rfl, hr, hB2⟩
  replace hB2 := Bnx hB1 hB2
  clear hB1 hR
  have Hr : Hid (IsIdx len S s r) := hr
  clear hr
  have hS2 := hB2.size
  have hI2 : Hid (∀ i, i < len → w.cell? ⟨b, off + i, none⟩ = some (.string (S i))) := fun i hi => (hI i hi).1
  clear hI
  go_wp2_with (at_make; refine wpList_make_own _ rfl _ _ 22 rfl w2.heap.size 9 i0 (.string ⟨#[]⟩) 1 Try.underlying22 hi0 hz0 hz1 _ _ _ (len + 1) rfl rfl (by omega) ?b2 ?b3 (Nat.le_refl _) ?_)
  case b2 => rw [hz2]; omega
  case b3 => unfold maxLen; omega
  intro w3 hown0 hgrow0
  have hB3 : Below w.heap.size w w3 := hB2.grown hgrow0 hS2 (fun k h => by cases h)
  go_wp2
  go_loopw [8, 9] (fun out i wr => ∃ k : Nat, k ≤ A ∧ i = .int .i64 k ∧ out = .slice (some ⟨w2.heap.size, 0, none⟩) k (len + 1) ∧ wr.ownsRow w2.heap.size 9 1 (.slice (some ⟨w2.heap.size, 0, none⟩) k (len + 1)) k (cont (grw A S s) k) ∧ Below w.heap.size w wr)
    (fun _ i _ => A - (intOf i).toNat)
  case atStart => exact ⟨0, Nat.zero_le _, rfl, rfl, hown0, hB3⟩
  case round =>
    obtain ⟨k, hk, rfl, rfl, hown, hB⟩ := hrel
    by_cases hlt : k < A
    · have c0 := (hB.cell (p := ⟨b, off + k, none⟩) hbw).trans (hI2.out k (by omega))
      have g1 : (k : Int) < (len : Int) := by omega
      go_wp2_with (at_builtin; refine wpList_append_fits _ rfl (.tmp 43) (.tmp 48) 22 rfl w2.heap.size 9 i0 1 Try.underlying22 hi0 hz1 w2.heap.size k (len + 1) _ rfl (hown.alloc _) ⟨wr.heap.size, 0, none⟩ 1 1 [.string (S k)] rfl rfl (by intro t u ht; match t, ht with | 0, ht => simp at ht; subst ht; simp [Addr.add]) (by intro u hu; simp at hu; subst hu; rfl) (by omega) ?_; intro w4 hown4 hgrow4)
      have e := cont_succ (grw A S s) k
      rw [grw_lt hlt] at e
      rw [e] at hown4
      clear e
      have hB4 : Below w.heap.size w w4 := (Bal hB _).grown hgrow4 (by have := hB.size; simp; omega) (fun j h => by cases h; exact hS2)
      go_roundw
      case rel => exact ⟨k + 1, by omega, by go_num, rfl, hown4, hB4⟩
      case measure => simp [intOf]; omega
    · obtain rfl : k = A := by omega
      clear hlt hk
      go_wp2_with (at_builtin; refine wpList_append_fits _ rfl (.tmp 50) (.tmp 52) 22 rfl w2.heap.size 9 i0 1 Try.underlying22 hi0 hz1 w2.heap.size k (len + 1) _ rfl (hown.alloc _) ⟨wr.heap.size, 0, none⟩ 1 1 [.string s] rfl rfl (by intro t u ht; match t, ht with | 0, ht => simp at ht; subst ht; simp [Addr.add]) (by intro u hu; simp at hu; subst hu; rfl) (by omega) ?_; intro w4 hown4 hgrow4)
      have e := cont_succ (grw k S s) k
      rw [grw_at] at e
      rw [e] at hown4
      clear e
      have hB4 : Below w.heap.size w w4 := (Bal hB _).grown hgrow4 (by have := hB.size; simp; omega) (fun j h => by cases h; exact hS2)
      clear hgrow4 hown hB hown0 hgrow0 hB3
      go_loopw [8, 10] (fun out i wr => ∃ j : Nat, k ≤ j ∧ j ≤ len ∧ i = .int .i64 j ∧ out = .slice (some ⟨w2.heap.size, 0, none⟩) (j + 1) (len + 1) ∧ wr.ownsRow w2.heap.size 9 1 (.slice (some ⟨w2.heap.size, 0, none⟩) (j + 1) (len + 1)) (j + 1) (cont (grw k S s) (j + 1)) ∧ Below w.heap.size w wr)
        (fun _ i _ => len - (intOf i).toNat)
      case atStart => exact ⟨k, Nat.le_refl _, hA, rfl, rfl, hown4, hB4⟩
      case round =>
        obtain ⟨j, hkj, hj, rfl, rfl, hown5, hB5⟩ := hrel
        by_cases hlt : j < len
        · have c0 := (hB5.cell (p := ⟨b, off + j, none⟩) hbw).trans (hI2.out j hlt)
          have g1 : (j : Int) < (len : Int) := by omega
          go_wp2_with (at_builtin; refine wpList_append_fits _ rfl (.tmp 61) (.tmp 66) 22 rfl w2.heap.size 9 i0 1 Try.underlying22 hi0 hz1 w2.heap.size (j + 1) (len + 1) _ rfl (hown5.alloc _) ⟨wr.heap.size, 0, none⟩ 1 1 [.string (S j)] rfl rfl (by intro t u ht; match t, ht with | 0, ht => simp at ht; subst ht; simp [Addr.add]) (by intro u hu; simp at hu; subst hu; rfl) (by omega) ?_; intro w6 hown6 hgrow6)
          have e := cont_succ (grw k S s) (j + 1)
          rw [grw_gt hkj] at e
          rw [e] at hown6
          clear e
          have hB6 : Below w.heap.size w w6 := (Bal hB5 _).grown hgrow6 (by have := hB5.size; simp; omega) (fun j h => by cases h; exact hS2)
          go_roundw
          case rel => exact ⟨j + 1, by omega, by omega, by go_num, rfl, hown6, hB6⟩
          case measure => simp [intOf]; omega
        · obtain rfl : j = len := by omega
          clear hlt hj
          have hcell : ∀ i, i < j + 1 → wr.cell? ⟨w2.heap.size, 0 + i, none⟩ = some (.string (grw k S s i)) := fun i hi => by
            rw [Nat.zero_add, hown5.cellAt i (by omega), cont_at _ _ _ hi]
          have hroom : w2.heap.size < wr.heap.size := (hown5.lt w2.heap.size rfl).2
          clear hown5 hown4 hB4
          go_wp2_with fail
          refine (rosterS w2.heap.size 0 (j + 1) (j + 1) (grw k S s) wr (by omega) hcell hroom).mono ?_
          rintro e w7 ⟨D2, rfl, hR2, hB7⟩
          go_wp2_with fail
          refine (indexOf_any D2 (j + 1) s (grw k S s) w7 (by omega) hR2).mono ?_
          rintro e w8 ⟨r2, rfl, hr2, hB8⟩
          replace hB8 := Bnx (Bnx hB5 hB7) hB8
          clear hB7 hB5 hR2 hcell hroom
          rcases Hr.out with ⟨rfl, hno⟩ | ⟨R, rfl, hR, hyes, hno⟩
          · obtain rfl := idx_at hA hr2 (fun i hi => hno i (by omega))
            clear hr2 hno Hr
            go_wp2
            go_ret
            exact ⟨rfl, hB8⟩
          · have c0 := (hB8.cell (p := ⟨b, off + R, none⟩) hbw).trans (hI2.out R hR)
            have hy : ((S R).toList == s.toList) = true := hyes
            by_cases hRk : R < k
            · obtain rfl := idx_hit hA hr2 hRk hyes hno
              clear hr2 hno Hr hyes
              go_wp2
              go_ret
              exact ⟨rfl, hB8⟩
            · obtain rfl := idx_at hA hr2 (fun i hi => hno i (by omega))
              clear hr2 hno Hr hyes
              go_wp2
              go_ret
              exact ⟨rfl, hB8⟩

set_option maxRecDepth 100000 in
set_option maxHeartbeats 4000000 in
theorem law4_none (a : Option Addr) (cap : Nat) (at0 : Int) (s : ByteArray) (S : Nat → ByteArray) (w : World) (hs : s.size ≤ maxLen) (hRos : ∀ w, Calls Try.prog 7 #[.slice a 0 cap] w (Gives 0 S w)) :
    Calls Try.prog 4 #[.slice a 0 cap, .int .i64 at0, .string s] w fun e w' => e = .returned (.bool true) ∧ Below w.heap.size w w' := by
  obtain ⟨i0, hi0, hz0, hz1, hz2⟩ := info_parts info9
  have HR : Hid (∀ w, Calls Try.prog 7 #[.slice a 0 cap] w (Gives 0 S w)) := hRos
  clear hRos
  go_enter Try.func4, Try.ntmps4
  go_wp2_with fail
  refine (bytes10_none a cap at0 s w hs).mono ?_
  rintro e w' ⟨r, rfl, hS, hw⟩
  subst hw
  cases r
  · go_wp2
    go_ret
    exact ⟨rfl, Below.refl _ _⟩
  replace hS := hS rfl
  go_wp2_with fail
  refine (tooBig_none a cap s w hS).mono ?_
  rintro e w' ⟨r, rfl, _, hw⟩
  subst hw
  cases r
  rotate_left
  · go_wp2
    go_ret
    exact ⟨rfl, Below.refl _ _⟩
  by_cases hk0 : at0 < 0
  · go_wp2
    go_ret
    exact ⟨rfl, Below.refl _ _⟩
  by_cases hk1 : 0 < at0
  · go_wp2
    go_ret
    exact ⟨rfl, Below.refl _ _⟩
  obtain rfl : at0 = 0 := by omega
  clear hk0 hk1 hs hS
  go_wp2_with fail
  refine (HR.out w).mono ?_
  rintro e w1 ⟨D, rfl, hR, hB1⟩
  go_wp2_with fail
  refine (indexOf_any D 0 s S w1 (by omega) hR).mono ?_
  rintro e w2 ⟨r, rfl, hr, hB2⟩
  replace hB2 := Bnx hB1 hB2
  clear hB1 hR
  obtain rfl : r = -1 := by
    rcases hr with ⟨h, _⟩ | ⟨k, _, hk, _⟩
    · exact h
    · omega
  clear hr
  have hS2 := hB2.size
  go_wp2_with (at_make; refine wpList_make_own _ rfl _ _ 22 rfl w2.heap.size 9 i0 (.string ⟨#[]⟩) 1 Try.underlying22 hi0 hz0 hz1 _ _ _ 1 rfl rfl (by omega) ?b2 ?b3 (Nat.le_refl _) ?_)
  case b2 => rw [hz2]; omega
  case b3 => unfold maxLen; omega
  intro w3 hown hgrow0
  have hB3 : Below w.heap.size w w3 := hB2.grown hgrow0 hS2 (fun k h => by cases h)
  go_wp2
  refine wp_loop_rounds 1 ?_
  rw [rounds_succ]
  go_wp2_with (at_builtin; refine wpList_append_fits _ rfl (.tmp 50) (.tmp 52) 22 rfl w2.heap.size 9 i0 1 Try.underlying22 hi0 hz1 w2.heap.size 0 1 _ rfl (hown.alloc _) ⟨w3.heap.size, 0, none⟩ 1 1 [.string s] rfl rfl (by intro t u ht; match t, ht with | 0, ht => simp at ht; subst ht; simp [Addr.add]) (by intro u hu; simp at hu; subst hu; rfl) (by omega) ?_; intro w4 hown4 hgrow4)
  have hB4 : Below w.heap.size w w4 := (Bal hB3 _).grown hgrow4 (by have := hB3.size; simp; omega) (fun j h => by cases h; exact hS2)
  have hcell : ∀ i, i < 1 → w4.cell? ⟨w2.heap.size, 0 + i, none⟩ = some (.string (grw 0 S s i)) := fun i hi => by
    obtain rfl : i = 0 := by omega
    have := hown4.cellAt 0 (by omega)
    rw [grw_at]
    simpa using this
  have hroom : w2.heap.size < w4.heap.size := (hown4.lt w2.heap.size rfl).2
  clear hown4 hgrow4 hown hgrow0 hB3
  refine wp_loop_rounds 1 ?_
  rw [rounds_succ]
  go_wp2_with fail
  refine (rosterS w2.heap.size 0 1 1 (grw 0 S s) w4 (by omega) hcell hroom).mono ?_
  rintro e w7 ⟨D2, rfl, hR2, hB7⟩
  go_wp2_with fail
  refine (indexOf_any D2 1 s (grw 0 S s) w7 (by omega) hR2).mono ?_
  rintro e w8 ⟨r2, rfl, hr2, hB8⟩
  replace hB8 := Bnx (Bnx hB4 hB7) hB8
  clear hB7 hB4 hR2 hcell hroom
  obtain rfl := idx_at (Nat.zero_le 0) hr2 (fun i hi => absurd hi (Nat.not_lt_zero i))
  clear hr2
  go_wp2
  go_ret
  exact ⟨rfl, hB8⟩
end Go.Proofs.Qxb6608645a
