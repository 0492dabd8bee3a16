import Derived.Test.Qxb6608558aPlain
namespace Go.Proofs.Qxb6608558a
open Go.RowKit

/-- A place lies in block b. -/
def PlAt (w : World) (b : Nat) (r n s : Int) (id : ByteArray) : Prop :=
  w.cell? ⟨b, 0, none⟩ = some (.int .i64 r) ∧ w.cell? ⟨b, 1, none⟩ = some (.int .u64 n) ∧ w.cell? ⟨b, 2, none⟩ = some (.int .i64 s) ∧ w.cell? ⟨b, 3, none⟩ = some (.pointer none) ∧ w.cell? ⟨b, 4, none⟩ = some (.string id)
theorem PlAt.new (w : World) (r n s : Int) (id : ByteArray) : PlAt (w.alloc (.cells #[.int .i64 r, .int .u64 n, .int .i64 s, .pointer none, .string id] 36)) w.heap.size r n s id := by
  refine ⟨?_, ?_, ?_, ?_, ?_⟩ <;> simp [go_sem]
theorem PlAt.below {w w' : World} {b : Nat} {r n s : Int} {id : ByteArray} (h : PlAt w b r n s id) {B : Nat} (hB : Below B w w') (hb : b < B) : PlAt w' b r n s id := by
  obtain ⟨h0, h1, h2, h3, h4⟩ := h
  exact ⟨(hB.cell (p := ⟨b, 0, none⟩) hb).trans h0, (hB.cell (p := ⟨b, 1, none⟩) hb).trans h1, (hB.cell (p := ⟨b, 2, none⟩) hb).trans h2, (hB.cell (p := ⟨b, 3, none⟩) hb).trans h3, (hB.cell (p := ⟨b, 4, none⟩) hb).trans h4⟩
theorem Bnext {W a b : World} (h : Below W.heap.size W a) (k : Below a.heap.size a b) : Below W.heap.size W b := h.trans (k.mono h.size)
theorem Balloc {W a : World} (h : Below W.heap.size W a) (o : Obj) : Below W.heap.size W (a.alloc o) := h.alloc h.size o


theorem bl_toList (s : ByteArray) : s.toList = s.data.toList := ByteArray.toList_eq s
theorem wantS_e {s : ByteArray} (h : s.toList.isEmpty = true) : wantS s = 0 := by
  rw [bl_toList] at h
  obtain ⟨⟨l⟩⟩ := s
  cases l with
  | nil => rfl
  | cons a t => simp at h
theorem wantS_n {s : ByteArray} (h : s.toList.isEmpty = false) : wantS s = -1 := by
  rw [bl_toList] at h
  obtain ⟨⟨l⟩⟩ := s
  cases l with
  | nil => simp at h
  | cons a t => unfold wantS; rw [if_neg]; simp [ByteArray.size]

set_option maxRecDepth 100000 in
set_option maxHeartbeats 4000000 in
theorem walk_ee_t (kA nsA : Int) (idA idB suf : ByteArray) (w : World) (hs : idA.size + idB.size + suf.size ≤ 1048576) (k0 : 0 ≤ kA) (k2 : kA ≤ 2) (l0 : -9223372036854775808 ≤ nsA) (l1 : nsA ≤ 9223372036854775807) (he : suf.toList.isEmpty = true) :
    Calls Try.prog 5 #[.int .i64 kA, .int .i64 nsA, .string idA, .int .i64 kA, .int .i64 nsA, .string idB, .string suf] w fun e w' => e = .returned (.bool true) ∧ Below w.heap.size w w' := by
  have E5 : Hid (cmpP kA (kn kA nsA) (ks kA nsA) idA kA (kn kA nsA) (ks kA nsA) (idA ++ suf) = 0) := (cmpP_id _ _ _ _ _).trans ((wantS_eq _ _).trans (wantS_e he))
  have E6 : Hid (cmpP kA (kn kA nsA) (ks kA nsA) (idA ++ suf) kA (kn kA nsA) (ks kA nsA) idA = 0) := (cmpP_id _ _ _ _ _).trans ((wantS_eq' _ _).trans (by rw [wantS_e he]; rfl))
  go_enter Try.func5, Try.ntmps5
  go_wp2_with fail
  refine (bytes14_yes _ _ _ _ _ _ _ _ hs).mono ?_
  rintro e w' ⟨rfl, hw⟩
  replace hw := hw.symm
  subst hw
  have T0 := Below.refl w.heap.size w
  go_wp2_with fail
  refine (status_any kA nsA idA _ (by omega) (by omega) (by omega) (by omega)).mono ?_
  rintro e s3w1 ⟨⟨s3hb1, s3nx1, s3hr1, rfl⟩, s3B1⟩
  have s3T1 := Bnext T0 s3B1
  go_wp2_with fail
  refine (place_any _ _ _ _ _ _).mono ?_
  rintro e s3w2 ⟨rfl, s3B2⟩
  rw [s3hr1]
  clear s3hr1
  have s3T2 := Bnext s3T1 s3B2
  have s3A2 := PlAt.new s3w2 (kA) (kn kA nsA) (ks kA nsA) idA
  have s3T3 := Balloc s3T2 (.cells #[.int .i64 (kA), .int .u64 (kn kA nsA), .int .i64 (ks kA nsA), .pointer none, .string idA] 36)
  go_wp2_with fail
  refine (status_any kA nsA (idA ++ suf) _ (by omega) (by omega) (by omega) (by omega)).mono ?_
  rintro e s3w3 ⟨⟨s3hb3, s3nx3, s3hr3, rfl⟩, s3B3⟩
  have s3T4 := Bnext s3T3 s3B3
  have s3A3 := s3A2.below s3B3 (by simp)
  have s3Z3 := s3B3.size
  simp only [World.size_alloc] at s3Z3
  go_wp2_with fail
  refine (place_any _ _ _ _ _ _).mono ?_
  rintro e s3w4 ⟨rfl, s3B4⟩
  rw [s3hr3]
  clear s3hr3
  have s3T5 := Bnext s3T4 s3B4
  have s3A4 := s3A3.below s3B4 (by omega)
  have s3Z4 := s3B4.size
  have s3N4 : s3w2.heap.size < s3w4.heap.size := by omega
  have s3Q4 := s3A4
  obtain ⟨s3a0, s3a1, s3a2, s3a3, s3a4⟩ := s3Q4
  have s3T6 := Balloc s3T5 (.cells #[.int .i64 (kA), .int .u64 (kn kA nsA), .int .i64 (ks kA nsA), .pointer none, .string (idA ++ suf)] 36)
  have s3A5 := s3A4.below (Below.alloc (Below.refl s3w4.heap.size s3w4) (Nat.le_refl _) (.cells #[.int .i64 (kA), .int .u64 (kn kA nsA), .int .i64 (ks kA nsA), .pointer none, .string (idA ++ suf)] 36)) s3N4
  have s3C5 := PlAt.new s3w4 (kA) (kn kA nsA) (ks kA nsA) (idA ++ suf)
  go_wp2_with fail
  clear s3a0 s3a1 s3a2 s3a3 s3a4
  refine (placeCompare_any _ _ _ _ _ _ _ _ _ (kn_lo _ _) (kn_hi _ _) (kn_lo _ _) (kn_hi _ _)).mono ?_
  rintro e s3w5 ⟨rfl, s3B5⟩
  rw [E5.out]
  have s3T7 := Bnext s3T6 s3B5
  have s3A6 := s3A5.below s3B5 (by simp only [World.size_alloc]; omega)
  have s3C6 := s3C5.below s3B5 (by simp)
  obtain ⟨s3a0, s3a1, s3a2, s3a3, s3a4⟩ := s3A6
  obtain ⟨s3c0, s3c1, s3c2, s3c3, s3c4⟩ := s3C6
  go_wp2_with fail
  clear s3a0 s3a1 s3a2 s3a3 s3a4 s3c0 s3c1 s3c2 s3c3 s3c4
  refine (placeCompare_any _ _ _ _ _ _ _ _ _ (kn_lo _ _) (kn_hi _ _) (kn_lo _ _) (kn_hi _ _)).mono ?_
  rintro e s3w6 ⟨rfl, s3B6⟩
  rw [E6.out]
  have s3T8 := Bnext s3T7 s3B6
  clear s3A2 s3A3 s3A4 s3A5 s3C5 s3T1 s3T2 s3T3 s3T4 s3T5 s3T6 s3T7 s3Z3 s3Z4 s3N4
  go_wp2
  go_ret
  exact ⟨rfl, s3T8⟩
set_option maxRecDepth 100000 in
set_option maxHeartbeats 4000000 in
theorem walk_ee_f (kA nsA : Int) (idA idB suf : ByteArray) (w : World) (hs : idA.size + idB.size + suf.size ≤ 1048576) (k0 : 0 ≤ kA) (k2 : kA ≤ 2) (l0 : -9223372036854775808 ≤ nsA) (l1 : nsA ≤ 9223372036854775807) (he : suf.toList.isEmpty = false) :
    Calls Try.prog 5 #[.int .i64 kA, .int .i64 nsA, .string idA, .int .i64 kA, .int .i64 nsA, .string idB, .string suf] w fun e w' => e = .returned (.bool true) ∧ Below w.heap.size w w' := by
  have E5 : Hid (cmpP kA (kn kA nsA) (ks kA nsA) idA kA (kn kA nsA) (ks kA nsA) (idA ++ suf) = -1) := (cmpP_id _ _ _ _ _).trans ((wantS_eq _ _).trans (wantS_n he))
  have E6 : Hid (cmpP kA (kn kA nsA) (ks kA nsA) (idA ++ suf) kA (kn kA nsA) (ks kA nsA) idA = 1) := (cmpP_id _ _ _ _ _).trans ((wantS_eq' _ _).trans (by rw [wantS_n he]; rfl))
  go_enter Try.func5, Try.ntmps5
  go_wp2_with fail
  refine (bytes14_yes _ _ _ _ _ _ _ _ hs).mono ?_
  rintro e w' ⟨rfl, hw⟩
  replace hw := hw.symm
  subst hw
  have T0 := Below.refl w.heap.size w
  go_wp2_with fail
  refine (status_any kA nsA idA _ (by omega) (by omega) (by omega) (by omega)).mono ?_
  rintro e s3w1 ⟨⟨s3hb1, s3nx1, s3hr1, rfl⟩, s3B1⟩
  have s3T1 := Bnext T0 s3B1
  go_wp2_with fail
  refine (place_any _ _ _ _ _ _).mono ?_
  rintro e s3w2 ⟨rfl, s3B2⟩
  rw [s3hr1]
  clear s3hr1
  have s3T2 := Bnext s3T1 s3B2
  have s3A2 := PlAt.new s3w2 (kA) (kn kA nsA) (ks kA nsA) idA
  have s3T3 := Balloc s3T2 (.cells #[.int .i64 (kA), .int .u64 (kn kA nsA), .int .i64 (ks kA nsA), .pointer none, .string idA] 36)
  go_wp2_with fail
  refine (status_any kA nsA (idA ++ suf) _ (by omega) (by omega) (by omega) (by omega)).mono ?_
  rintro e s3w3 ⟨⟨s3hb3, s3nx3, s3hr3, rfl⟩, s3B3⟩
  have s3T4 := Bnext s3T3 s3B3
  have s3A3 := s3A2.below s3B3 (by simp)
  have s3Z3 := s3B3.size
  simp only [World.size_alloc] at s3Z3
  go_wp2_with fail
  refine (place_any _ _ _ _ _ _).mono ?_
  rintro e s3w4 ⟨rfl, s3B4⟩
  rw [s3hr3]
  clear s3hr3
  have s3T5 := Bnext s3T4 s3B4
  have s3A4 := s3A3.below s3B4 (by omega)
  have s3Z4 := s3B4.size
  have s3N4 : s3w2.heap.size < s3w4.heap.size := by omega
  have s3Q4 := s3A4
  obtain ⟨s3a0, s3a1, s3a2, s3a3, s3a4⟩ := s3Q4
  have s3T6 := Balloc s3T5 (.cells #[.int .i64 (kA), .int .u64 (kn kA nsA), .int .i64 (ks kA nsA), .pointer none, .string (idA ++ suf)] 36)
  have s3A5 := s3A4.below (Below.alloc (Below.refl s3w4.heap.size s3w4) (Nat.le_refl _) (.cells #[.int .i64 (kA), .int .u64 (kn kA nsA), .int .i64 (ks kA nsA), .pointer none, .string (idA ++ suf)] 36)) s3N4
  have s3C5 := PlAt.new s3w4 (kA) (kn kA nsA) (ks kA nsA) (idA ++ suf)
  go_wp2_with fail
  clear s3a0 s3a1 s3a2 s3a3 s3a4
  refine (placeCompare_any _ _ _ _ _ _ _ _ _ (kn_lo _ _) (kn_hi _ _) (kn_lo _ _) (kn_hi _ _)).mono ?_
  rintro e s3w5 ⟨rfl, s3B5⟩
  rw [E5.out]
  have s3T7 := Bnext s3T6 s3B5
  have s3A6 := s3A5.below s3B5 (by simp only [World.size_alloc]; omega)
  have s3C6 := s3C5.below s3B5 (by simp)
  obtain ⟨s3a0, s3a1, s3a2, s3a3, s3a4⟩ := s3A6
  obtain ⟨s3c0, s3c1, s3c2, s3c3, s3c4⟩ := s3C6
  go_wp2_with fail
  clear s3a0 s3a1 s3a2 s3a3 s3a4 s3c0 s3c1 s3c2 s3c3 s3c4
  refine (placeCompare_any _ _ _ _ _ _ _ _ _ (kn_lo _ _) (kn_hi _ _) (kn_lo _ _) (kn_hi _ _)).mono ?_
  rintro e s3w6 ⟨rfl, s3B6⟩
  rw [E6.out]
  have s3T8 := Bnext s3T7 s3B6
  clear s3A2 s3A3 s3A4 s3A5 s3C5 s3T1 s3T2 s3T3 s3T4 s3T5 s3T6 s3T7 s3Z3 s3Z4 s3N4
  go_wp2
  go_ret
  exact ⟨rfl, s3T8⟩
set_option maxRecDepth 100000 in
set_option maxHeartbeats 4000000 in
theorem walk_ke_t (kA nsA kB : Int) (idA idB suf : ByteArray) (w : World) (hs : idA.size + idB.size + suf.size ≤ 1048576) (k0 : 0 ≤ kA) (k2 : kA ≤ 2) (l0 : -9223372036854775808 ≤ nsA) (l1 : nsA ≤ 9223372036854775807) (m0 : 0 ≤ kB) (m2 : kB ≤ 2) (hk : kA ≠ kB) (he : suf.toList.isEmpty = true) :
    Calls Try.prog 5 #[.int .i64 kA, .int .i64 nsA, .string idA, .int .i64 kB, .int .i64 nsA, .string idB, .string suf] w fun e w' => e = .returned (.bool true) ∧ Below w.heap.size w w' := by
  have bk : (kA == kB) = false := by simpa using hk
  have E1 : Hid (cmpP kA (kn kA nsA) (ks kA nsA) idA kB (kn kB nsA) (ks kB nsA) idB = cmpI kA kB) := cmpP_kind hk _ _ _ _ _ _
  have E2 : Hid (cmpP kB (kn kB nsA) (ks kB nsA) idB kA (kn kA nsA) (ks kA nsA) idA = -cmpI kA kB) := (cmpP_kind (Ne.symm hk) _ _ _ _ _ _).trans (cmpI_neg _ _)
  have y0 := cmpI_lo kA kB
  have y1 := cmpI_hi kA kB
  clear hk
  have E5 : Hid (cmpP kA (kn kA nsA) (ks kA nsA) idA kA (kn kA nsA) (ks kA nsA) (idA ++ suf) = 0) := (cmpP_id _ _ _ _ _).trans ((wantS_eq _ _).trans (wantS_e he))
  have E6 : Hid (cmpP kA (kn kA nsA) (ks kA nsA) (idA ++ suf) kA (kn kA nsA) (ks kA nsA) idA = 0) := (cmpP_id _ _ _ _ _).trans ((wantS_eq' _ _).trans (by rw [wantS_e he]; rfl))
  go_enter Try.func5, Try.ntmps5
  go_wp2_with fail
  refine (bytes14_yes _ _ _ _ _ _ _ _ hs).mono ?_
  rintro e w' ⟨rfl, hw⟩
  replace hw := hw.symm
  subst hw
  have T0 := Below.refl w.heap.size w
  go_wp2_with fail
  refine (status_any kA nsA idA _ (by omega) (by omega) (by omega) (by omega)).mono ?_
  rintro e s1w1 ⟨⟨s1hb1, s1nx1, s1hr1, rfl⟩, s1B1⟩
  have s1T1 := Bnext T0 s1B1
  go_wp2_with fail
  refine (place_any _ _ _ _ _ _).mono ?_
  rintro e s1w2 ⟨rfl, s1B2⟩
  rw [s1hr1]
  clear s1hr1
  have s1T2 := Bnext s1T1 s1B2
  have s1A2 := PlAt.new s1w2 (kA) (kn kA nsA) (ks kA nsA) idA
  have s1T3 := Balloc s1T2 (.cells #[.int .i64 (kA), .int .u64 (kn kA nsA), .int .i64 (ks kA nsA), .pointer none, .string idA] 36)
  go_wp2_with fail
  refine (status_any kB nsA idB _ (by omega) (by omega) (by omega) (by omega)).mono ?_
  rintro e s1w3 ⟨⟨s1hb3, s1nx3, s1hr3, rfl⟩, s1B3⟩
  have s1T4 := Bnext s1T3 s1B3
  have s1A3 := s1A2.below s1B3 (by simp)
  have s1Z3 := s1B3.size
  simp only [World.size_alloc] at s1Z3
  go_wp2_with fail
  refine (place_any _ _ _ _ _ _).mono ?_
  rintro e s1w4 ⟨rfl, s1B4⟩
  rw [s1hr3]
  clear s1hr3
  have s1T5 := Bnext s1T4 s1B4
  have s1A4 := s1A3.below s1B4 (by omega)
  have s1Z4 := s1B4.size
  have s1N4 : s1w2.heap.size < s1w4.heap.size := by omega
  have s1Q4 := s1A4
  obtain ⟨s1a0, s1a1, s1a2, s1a3, s1a4⟩ := s1Q4
  have s1T6 := Balloc s1T5 (.cells #[.int .i64 (kB), .int .u64 (kn kB nsA), .int .i64 (ks kB nsA), .pointer none, .string idB] 36)
  have s1A5 := s1A4.below (Below.alloc (Below.refl s1w4.heap.size s1w4) (Nat.le_refl _) (.cells #[.int .i64 (kB), .int .u64 (kn kB nsA), .int .i64 (ks kB nsA), .pointer none, .string idB] 36)) s1N4
  have s1C5 := PlAt.new s1w4 (kB) (kn kB nsA) (ks kB nsA) idB
  go_wp2_with fail
  refine (zzCmpInt_any _ _ _).mono ?_
  rintro e w0 ⟨rfl, rfl⟩
  go_wp2_with fail
  clear s1a0 s1a1 s1a2 s1a3 s1a4
  refine (placeCompare_any _ _ _ _ _ _ _ _ _ (kn_lo _ _) (kn_hi _ _) (kn_lo _ _) (kn_hi _ _)).mono ?_
  rintro e s1w5 ⟨rfl, s1B5⟩
  rw [E1.out]
  have s1T7 := Bnext s1T6 s1B5
  have s1A6 := s1A5.below s1B5 (by simp only [World.size_alloc]; omega)
  have s1C6 := s1C5.below s1B5 (by simp)
  obtain ⟨s1a0, s1a1, s1a2, s1a3, s1a4⟩ := s1A6
  obtain ⟨s1c0, s1c1, s1c2, s1c3, s1c4⟩ := s1C6
  go_wp2_with fail
  clear s1a0 s1a1 s1a2 s1a3 s1a4 s1c0 s1c1 s1c2 s1c3 s1c4
  refine (placeCompare_any _ _ _ _ _ _ _ _ _ (kn_lo _ _) (kn_hi _ _) (kn_lo _ _) (kn_hi _ _)).mono ?_
  rintro e s1w6 ⟨rfl, s1B6⟩
  rw [E2.out]
  have s1T8 := Bnext s1T7 s1B6
  clear s1A2 s1A3 s1A4 s1A5 s1C5 s1T1 s1T2 s1T3 s1T4 s1T5 s1T6 s1T7 s1Z3 s1Z4 s1N4
  go_wp2_with fail
  refine (status_any kA nsA idA _ (by omega) (by omega) (by omega) (by omega)).mono ?_
  rintro e s3w1 ⟨⟨s3hb1, s3nx1, s3hr1, rfl⟩, s3B1⟩
  have s3T1 := Bnext s1T8 s3B1
  go_wp2_with fail
  refine (place_any _ _ _ _ _ _).mono ?_
  rintro e s3w2 ⟨rfl, s3B2⟩
  rw [s3hr1]
  clear s3hr1
  have s3T2 := Bnext s3T1 s3B2
  have s3A2 := PlAt.new s3w2 (kA) (kn kA nsA) (ks kA nsA) idA
  have s3T3 := Balloc s3T2 (.cells #[.int .i64 (kA), .int .u64 (kn kA nsA), .int .i64 (ks kA nsA), .pointer none, .string idA] 36)
  go_wp2_with fail
  refine (status_any kA nsA (idA ++ suf) _ (by omega) (by omega) (by omega) (by omega)).mono ?_
  rintro e s3w3 ⟨⟨s3hb3, s3nx3, s3hr3, rfl⟩, s3B3⟩
  have s3T4 := Bnext s3T3 s3B3
  have s3A3 := s3A2.below s3B3 (by simp)
  have s3Z3 := s3B3.size
  simp only [World.size_alloc] at s3Z3
  go_wp2_with fail
  refine (place_any _ _ _ _ _ _).mono ?_
  rintro e s3w4 ⟨rfl, s3B4⟩
  rw [s3hr3]
  clear s3hr3
  have s3T5 := Bnext s3T4 s3B4
  have s3A4 := s3A3.below s3B4 (by omega)
  have s3Z4 := s3B4.size
  have s3N4 : s3w2.heap.size < s3w4.heap.size := by omega
  have s3Q4 := s3A4
  obtain ⟨s3a0, s3a1, s3a2, s3a3, s3a4⟩ := s3Q4
  have s3T6 := Balloc s3T5 (.cells #[.int .i64 (kA), .int .u64 (kn kA nsA), .int .i64 (ks kA nsA), .pointer none, .string (idA ++ suf)] 36)
  have s3A5 := s3A4.below (Below.alloc (Below.refl s3w4.heap.size s3w4) (Nat.le_refl _) (.cells #[.int .i64 (kA), .int .u64 (kn kA nsA), .int .i64 (ks kA nsA), .pointer none, .string (idA ++ suf)] 36)) s3N4
  have s3C5 := PlAt.new s3w4 (kA) (kn kA nsA) (ks kA nsA) (idA ++ suf)
  go_wp2_with fail
  clear s3a0 s3a1 s3a2 s3a3 s3a4
  refine (placeCompare_any _ _ _ _ _ _ _ _ _ (kn_lo _ _) (kn_hi _ _) (kn_lo _ _) (kn_hi _ _)).mono ?_
  rintro e s3w5 ⟨rfl, s3B5⟩
  rw [E5.out]
  have s3T7 := Bnext s3T6 s3B5
  have s3A6 := s3A5.below s3B5 (by simp only [World.size_alloc]; omega)
  have s3C6 := s3C5.below s3B5 (by simp)
  obtain ⟨s3a0, s3a1, s3a2, s3a3, s3a4⟩ := s3A6
  obtain ⟨s3c0, s3c1, s3c2, s3c3, s3c4⟩ := s3C6
  go_wp2_with fail
  clear s3a0 s3a1 s3a2 s3a3 s3a4 s3c0 s3c1 s3c2 s3c3 s3c4
  refine (placeCompare_any _ _ _ _ _ _ _ _ _ (kn_lo _ _) (kn_hi _ _) (kn_lo _ _) (kn_hi _ _)).mono ?_
  rintro e s3w6 ⟨rfl, s3B6⟩
  rw [E6.out]
  have s3T8 := Bnext s3T7 s3B6
  clear s3A2 s3A3 s3A4 s3A5 s3C5 s3T1 s3T2 s3T3 s3T4 s3T5 s3T6 s3T7 s3Z3 s3Z4 s3N4
  go_wp2
  go_ret
  exact ⟨rfl, s3T8⟩
set_option maxRecDepth 100000 in
set_option maxHeartbeats 4000000 in
theorem walk_ke_f (kA nsA kB : Int) (idA idB suf : ByteArray) (w : World) (hs : idA.size + idB.size + suf.size ≤ 1048576) (k0 : 0 ≤ kA) (k2 : kA ≤ 2) (l0 : -9223372036854775808 ≤ nsA) (l1 : nsA ≤ 9223372036854775807) (m0 : 0 ≤ kB) (m2 : kB ≤ 2) (hk : kA ≠ kB) (he : suf.toList.isEmpty = false) :
    Calls Try.prog 5 #[.int .i64 kA, .int .i64 nsA, .string idA, .int .i64 kB, .int .i64 nsA, .string idB, .string suf] w fun e w' => e = .returned (.bool true) ∧ Below w.heap.size w w' := by
  have bk : (kA == kB) = false := by simpa using hk
  have E1 : Hid (cmpP kA (kn kA nsA) (ks kA nsA) idA kB (kn kB nsA) (ks kB nsA) idB = cmpI kA kB) := cmpP_kind hk _ _ _ _ _ _
  have E2 : Hid (cmpP kB (kn kB nsA) (ks kB nsA) idB kA (kn kA nsA) (ks kA nsA) idA = -cmpI kA kB) := (cmpP_kind (Ne.symm hk) _ _ _ _ _ _).trans (cmpI_neg _ _)
  have y0 := cmpI_lo kA kB
  have y1 := cmpI_hi kA kB
  clear hk
  have E5 : Hid (cmpP kA (kn kA nsA) (ks kA nsA) idA kA (kn kA nsA) (ks kA nsA) (idA ++ suf) = -1) := (cmpP_id _ _ _ _ _).trans ((wantS_eq _ _).trans (wantS_n he))
  have E6 : Hid (cmpP kA (kn kA nsA) (ks kA nsA) (idA ++ suf) kA (kn kA nsA) (ks kA nsA) idA = 1) := (cmpP_id _ _ _ _ _).trans ((wantS_eq' _ _).trans (by rw [wantS_n he]; rfl))
  go_enter Try.func5, Try.ntmps5
  go_wp2_with fail
  refine (bytes14_yes _ _ _ _ _ _ _ _ hs).mono ?_
  rintro e w' ⟨rfl, hw⟩
  replace hw := hw.symm
  subst hw
  have T0 := Below.refl w.heap.size w
  go_wp2_with fail
  refine (status_any kA nsA idA _ (by omega) (by omega) (by omega) (by omega)).mono ?_
  rintro e s1w1 ⟨⟨s1hb1, s1nx1, s1hr1, rfl⟩, s1B1⟩
  have s1T1 := Bnext T0 s1B1
  go_wp2_with fail
  refine (place_any _ _ _ _ _ _).mono ?_
  rintro e s1w2 ⟨rfl, s1B2⟩
  rw [s1hr1]
  clear s1hr1
  have s1T2 := Bnext s1T1 s1B2
  have s1A2 := PlAt.new s1w2 (kA) (kn kA nsA) (ks kA nsA) idA
  have s1T3 := Balloc s1T2 (.cells #[.int .i64 (kA), .int .u64 (kn kA nsA), .int .i64 (ks kA nsA), .pointer none, .string idA] 36)
  go_wp2_with fail
  refine (status_any kB nsA idB _ (by omega) (by omega) (by omega) (by omega)).mono ?_
  rintro e s1w3 ⟨⟨s1hb3, s1nx3, s1hr3, rfl⟩, s1B3⟩
  have s1T4 := Bnext s1T3 s1B3
  have s1A3 := s1A2.below s1B3 (by simp)
  have s1Z3 := s1B3.size
  simp only [World.size_alloc] at s1Z3
  go_wp2_with fail
  refine (place_any _ _ _ _ _ _).mono ?_
  rintro e s1w4 ⟨rfl, s1B4⟩
  rw [s1hr3]
  clear s1hr3
  have s1T5 := Bnext s1T4 s1B4
  have s1A4 := s1A3.below s1B4 (by omega)
  have s1Z4 := s1B4.size
  have s1N4 : s1w2.heap.size < s1w4.heap.size := by omega
  have s1Q4 := s1A4
  obtain ⟨s1a0, s1a1, s1a2, s1a3, s1a4⟩ := s1Q4
  have s1T6 := Balloc s1T5 (.cells #[.int .i64 (kB), .int .u64 (kn kB nsA), .int .i64 (ks kB nsA), .pointer none, .string idB] 36)
  have s1A5 := s1A4.below (Below.alloc (Below.refl s1w4.heap.size s1w4) (Nat.le_refl _) (.cells #[.int .i64 (kB), .int .u64 (kn kB nsA), .int .i64 (ks kB nsA), .pointer none, .string idB] 36)) s1N4
  have s1C5 := PlAt.new s1w4 (kB) (kn kB nsA) (ks kB nsA) idB
  go_wp2_with fail
  refine (zzCmpInt_any _ _ _).mono ?_
  rintro e w0 ⟨rfl, rfl⟩
  go_wp2_with fail
  clear s1a0 s1a1 s1a2 s1a3 s1a4
  refine (placeCompare_any _ _ _ _ _ _ _ _ _ (kn_lo _ _) (kn_hi _ _) (kn_lo _ _) (kn_hi _ _)).mono ?_
  rintro e s1w5 ⟨rfl, s1B5⟩
  rw [E1.out]
  have s1T7 := Bnext s1T6 s1B5
  have s1A6 := s1A5.below s1B5 (by simp only [World.size_alloc]; omega)
  have s1C6 := s1C5.below s1B5 (by simp)
  obtain ⟨s1a0, s1a1, s1a2, s1a3, s1a4⟩ := s1A6
  obtain ⟨s1c0, s1c1, s1c2, s1c3, s1c4⟩ := s1C6
  go_wp2_with fail
  clear s1a0 s1a1 s1a2 s1a3 s1a4 s1c0 s1c1 s1c2 s1c3 s1c4
  refine (placeCompare_any _ _ _ _ _ _ _ _ _ (kn_lo _ _) (kn_hi _ _) (kn_lo _ _) (kn_hi _ _)).mono ?_
  rintro e s1w6 ⟨rfl, s1B6⟩
  rw [E2.out]
  have s1T8 := Bnext s1T7 s1B6
  clear s1A2 s1A3 s1A4 s1A5 s1C5 s1T1 s1T2 s1T3 s1T4 s1T5 s1T6 s1T7 s1Z3 s1Z4 s1N4
  go_wp2_with fail
  refine (status_any kA nsA idA _ (by omega) (by omega) (by omega) (by omega)).mono ?_
  rintro e s3w1 ⟨⟨s3hb1, s3nx1, s3hr1, rfl⟩, s3B1⟩
  have s3T1 := Bnext s1T8 s3B1
  go_wp2_with fail
  refine (place_any _ _ _ _ _ _).mono ?_
  rintro e s3w2 ⟨rfl, s3B2⟩
  rw [s3hr1]
  clear s3hr1
  have s3T2 := Bnext s3T1 s3B2
  have s3A2 := PlAt.new s3w2 (kA) (kn kA nsA) (ks kA nsA) idA
  have s3T3 := Balloc s3T2 (.cells #[.int .i64 (kA), .int .u64 (kn kA nsA), .int .i64 (ks kA nsA), .pointer none, .string idA] 36)
  go_wp2_with fail
  refine (status_any kA nsA (idA ++ suf) _ (by omega) (by omega) (by omega) (by omega)).mono ?_
  rintro e s3w3 ⟨⟨s3hb3, s3nx3, s3hr3, rfl⟩, s3B3⟩
  have s3T4 := Bnext s3T3 s3B3
  have s3A3 := s3A2.below s3B3 (by simp)
  have s3Z3 := s3B3.size
  simp only [World.size_alloc] at s3Z3
  go_wp2_with fail
  refine (place_any _ _ _ _ _ _).mono ?_
  rintro e s3w4 ⟨rfl, s3B4⟩
  rw [s3hr3]
  clear s3hr3
  have s3T5 := Bnext s3T4 s3B4
  have s3A4 := s3A3.below s3B4 (by omega)
  have s3Z4 := s3B4.size
  have s3N4 : s3w2.heap.size < s3w4.heap.size := by omega
  have s3Q4 := s3A4
  obtain ⟨s3a0, s3a1, s3a2, s3a3, s3a4⟩ := s3Q4
  have s3T6 := Balloc s3T5 (.cells #[.int .i64 (kA), .int .u64 (kn kA nsA), .int .i64 (ks kA nsA), .pointer none, .string (idA ++ suf)] 36)
  have s3A5 := s3A4.below (Below.alloc (Below.refl s3w4.heap.size s3w4) (Nat.le_refl _) (.cells #[.int .i64 (kA), .int .u64 (kn kA nsA), .int .i64 (ks kA nsA), .pointer none, .string (idA ++ suf)] 36)) s3N4
  have s3C5 := PlAt.new s3w4 (kA) (kn kA nsA) (ks kA nsA) (idA ++ suf)
  go_wp2_with fail
  clear s3a0 s3a1 s3a2 s3a3 s3a4
  refine (placeCompare_any _ _ _ _ _ _ _ _ _ (kn_lo _ _) (kn_hi _ _) (kn_lo _ _) (kn_hi _ _)).mono ?_
  rintro e s3w5 ⟨rfl, s3B5⟩
  rw [E5.out]
  have s3T7 := Bnext s3T6 s3B5
  have s3A6 := s3A5.below s3B5 (by simp only [World.size_alloc]; omega)
  have s3C6 := s3C5.below s3B5 (by simp)
  obtain ⟨s3a0, s3a1, s3a2, s3a3, s3a4⟩ := s3A6
  obtain ⟨s3c0, s3c1, s3c2, s3c3, s3c4⟩ := s3C6
  go_wp2_with fail
  clear s3a0 s3a1 s3a2 s3a3 s3a4 s3c0 s3c1 s3c2 s3c3 s3c4
  refine (placeCompare_any _ _ _ _ _ _ _ _ _ (kn_lo _ _) (kn_hi _ _) (kn_lo _ _) (kn_hi _ _)).mono ?_
  rintro e s3w6 ⟨rfl, s3B6⟩
  rw [E6.out]
  have s3T8 := Bnext s3T7 s3B6
  clear s3A2 s3A3 s3A4 s3A5 s3C5 s3T1 s3T2 s3T3 s3T4 s3T5 s3T6 s3T7 s3Z3 s3Z4 s3N4
  go_wp2
  go_ret
  exact ⟨rfl, s3T8⟩
end Go.Proofs.Qxb6608558a
