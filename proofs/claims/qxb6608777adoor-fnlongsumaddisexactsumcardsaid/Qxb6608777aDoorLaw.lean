import Derived.Test.Qxb6608777aDoorPrep
namespace Go.Proofs.Qxb6608777aDoor
open Go.RowKit

theorem Tab.below {w w' : World} {B : Nat} (h : Tab w) (hB : Below B w w') (h1 : 1 < B) : Tab w' :=
  ⟨Nat.lt_of_lt_of_le h.1 hB.size, fun i hi => (hB.cell (p := ⟨1, i, none⟩) h1).trans (h.2 i hi)⟩
/-- In the midst of the additions. -/
def Adding (X : Nat → Nat) (w wr : World) (k : Nat) : Prop := Below w.heap.size w wr ∧ ∃ lo hi, LS wr w.heap.size (upS X k) (dnS X k) lo hi ∧ Win X k (upS X k) (dnS X k) lo hi
/-- In the midst of the counts. -/
def Counting (X : Nat → Nat) (B : Nat) (w6 wr : World) (k : Nat) : Prop := Cols wr B (upS X k) k ∧ Cols wr (B + 1) (dnS X k) k ∧ Below B w6 wr

theorem store_start (P : Nat) (w3 : World) : Row ((w3.alloc (.cells z36 30)).alloc (.cells z36 30)) w3.heap.size 0 36 (wds 0) ∧ Row (((w3.alloc (.cells z36 30)).alloc (.cells z36 30)).setCells w3.heap.size 0 (ws P)) (w3.heap.size + 1) 0 36 (wds 0) := by
  obtain ⟨s1, s2, s3⟩ := pack_start w3
  exact ⟨s2, s3.only (Only.setCells _ _ 0 (Only.refl _ _)) (by omega)⟩
theorem stored_two (P Q : Nat) (w3 : World) : ∃ w5, w5 = (((w3.alloc (.cells z36 30)).alloc (.cells z36 30)).setCells w3.heap.size 0 (ws P)).setCells (w3.heap.size + 1) 0 (ws Q) ∧ Below w3.heap.size w3 w5 ∧ Row w5 w3.heap.size 0 36 (wds P) ∧ Row w5 (w3.heap.size + 1) 0 36 (wds Q) ∧ w5.heap.size = w3.heap.size + 2 := by
  obtain ⟨s1, s2, s3⟩ := pack_start w3
  refine ⟨_, rfl, ?_⟩
  have hs : ((w3.alloc (.cells z36 30)).alloc (.cells z36 30)).heap.size = w3.heap.size + 2 := by rw [size_alloc, size_alloc]
  generalize ((w3.alloc (.cells z36 30)).alloc (.cells z36 30)) = w4 at s1 s2 s3 hs ⊢
  have O1 : Only w3.heap.size w4 (w4.setCells w3.heap.size 0 (ws P)) := Only.setCells _ _ 0 (Only.refl _ _)
  have r1 := s2.stored P
  have r2 := s3.only O1 (by omega)
  generalize w4.setCells w3.heap.size 0 (ws P) = w5 at O1 r1 r2 ⊢
  have O2 : Only (w3.heap.size + 1) w5 (w5.setCells (w3.heap.size + 1) 0 (ws Q)) := Only.setCells _ _ 0 (Only.refl _ _)
  exact ⟨s1.trans ((O1.below (Nat.le_refl _)).trans (O2.below (by omega))), r1.only O2 (by omega), r2.stored Q, by rw [O2.size, O1.size, hs]⟩
theorem count_start (w5 : World) : Below w5.heap.size w5 ((w5.alloc (.cells mkI 3)).alloc (.cells mkI 3)) ∧ Cols ((w5.alloc (.cells mkI 3)).alloc (.cells mkI 3)) w5.heap.size 0 0 ∧ Cols ((w5.alloc (.cells mkI 3)).alloc (.cells mkI 3)) (w5.heap.size + 1) 0 0 := by
  have b1 := below_alloc w5 (.cells mkI 3)
  have b2 := below_alloc (w5.alloc (.cells mkI 3)) (.cells mkI 3)
  have c2 := Cols.new (w5.alloc (.cells mkI 3))
  rw [size_alloc] at b2 c2
  exact ⟨b1.trans (b2.mono (by omega)), (Cols.new w5).below b2 (by omega), c2⟩
theorem Counting.up {X : Nat → Nat} {B k : Nat} {w6 wr w' : World} (h : Counting X B w6 wr k) (hs : ¬ sgn (X k) = 1) (hc : Cols w' B (upS X k + mag (X k)) (k + 1)) (hO : Only B wr w') : Counting X B w6 w' (k + 1) := by
  have eU : upS X (k + 1) = upS X k + mag (X k) := by show upS X k + (if _ then _ else _) = _; rw [if_neg hs]
  have eD : dnS X (k + 1) = dnS X k := by show dnS X k + (if _ then _ else _) = _; rw [if_neg hs, Nat.add_zero]
  exact ⟨by rw [eU]; exact hc, by rw [eD]; exact (h.2.1.only hO (by omega)).up (by omega), h.2.2.trans (hO.below (Nat.le_refl _))⟩
theorem Counting.dn {X : Nat → Nat} {B k : Nat} {w6 wr w' : World} (h : Counting X B w6 wr k) (hs : sgn (X k) = 1) (hc : Cols w' (B + 1) (dnS X k + mag (X k)) (k + 1)) (hO : Only (B + 1) wr w') : Counting X B w6 w' (k + 1) := by
  have eU : upS X (k + 1) = upS X k := by show upS X k + (if _ then _ else _) = _; rw [if_pos hs, Nat.add_zero]
  have eD : dnS X (k + 1) = dnS X k + mag (X k) := by show dnS X k + (if _ then _ else _) = _; rw [if_pos hs]
  exact ⟨by rw [eU]; exact (h.1.only hO (by omega)).up (by omega), by rw [eD]; exact hc, h.2.2.trans (hO.below (by omega))⟩

/-- The two rows that the last regions hold on to. -/
def Two (A P Q : Nat) (w : World) : Prop := Row w A 0 36 (wds P) ∧ Row w (A + 1) 0 36 (wds Q)
set_option exponentiation.threshold 4000 in
theorem small_mod {P : Nat} (h : P < 2 ^ (64 * 34)) : P % 2 ^ 2304 = P :=
  Nat.mod_eq_of_lt (Nat.lt_of_lt_of_le h (Nat.pow_le_pow_right (by omega) (by omega)))

set_option maxRecDepth 100000 in
set_option maxHeartbeats 8000000 in
theorem law_good (x : Option Addr) (L c : Nat) (X : Nat → Nat) (w : World) (hL : L ≤ 65536) (hT : Tab w) (hX : Xs w x L X) (hb : ∀ t, t < L → X t < 18446744073709551616) (hok : ∀ t, t < L → expo (X t) ≠ 2047) :
    Calls Tryd.prog 3 #[.slice x L c] w (Yes w) := by
  have HX : Hid (Xs w x L X) := ⟨hX⟩
  have HO : Hid (∀ t, t < L → expo (X t) ≠ 2047) := ⟨hok⟩
  have HB : Hid (∀ t, t < L → X t < 18446744073709551616) := ⟨hb⟩
  have HT : Hid (Tab w) := ⟨hT⟩
  clear hX hok hb hT
  go_enter Tryd.func3, Tryd.ntmps3
  go_wp2_with (go_at_call 4; refine (bytes_yes _ _ _ _ hL).mono ?_; rintro e w' ⟨rfl, hw⟩; subst hw)
  go_loop [3] (fun i => ∃ k : Nat, k ≤ L ∧ i = .int .i64 k) (fun i => L - (intOf i).toNat)
  case atStart => exact ⟨0, Nat.zero_le _, rfl⟩
  case round =>
    obtain ⟨k, hk, rfl⟩ := hrel
    by_cases hlt : k < L
    · obtain ⟨p, rfl, q1⟩ := HX.out.at (Below.refl _ _) hlt
      have g0 : (0 : Int) ≤ (k : Int) := by omega
      have g1 : (k : Int) < (L : Int) := by omega
      have HC : Hid _ := ⟨fin_yes (X k) w (HO.out k hlt)⟩
      go_wp2_with (go_at_call 5; refine HC.out.mono ?_; rintro e w' ⟨rfl, hw⟩; subst hw)
      go_round
      case rel => exact ⟨k + 1, by omega, by go_num⟩
      case measure => simp [intOf]; omega
    · have g1 : ¬ (k : Int) < (L : Int) := by omega
      have HA : Hid (Adding X w (w.alloc (.cells z74 40)) 0) := ⟨below_alloc _ _, 0, 0, LS.new w, Win.zero X⟩
      clear hk hlt
      go_wp2_with (go_at_call 6; refine (new_any _).mono ?_; rintro e w' ⟨rfl, hw⟩; subst hw)
      go_loopw [5] (fun i wr => ∃ k : Nat, k ≤ L ∧ i = .int .i64 k ∧ Hid (Adding X w wr k)) (fun i _ => L - (intOf i).toNat)
      case atStart => exact ⟨0, Nat.zero_le _, rfl, HA⟩
      case round =>
        obtain ⟨k, hk, rfl, HAk⟩ := hrel
        clear HA
        by_cases hlt : k < L
        · obtain ⟨p, rfl, q1⟩ := HX.out.at HAk.out.1 hlt
          have g0 : (0 : Int) ≤ (k : Int) := by omega
          have g1 : (k : Int) < (L : Int) := by omega
          obtain ⟨lo, hi, hLS, hWin⟩ := HAk.out.2
          have HC : Hid _ := ⟨zadd_any X k w.heap.size lo hi wr (HB.out k hlt) (HO.out k hlt) (HT.out.below HAk.out.1 HT.out.1) hLS hWin (sum_lt X (k + 1) L (by omega) hL HO.out)⟩
          clear hLS hWin
          go_wp2_with fail
          refine HC.out.mono ?_
          rintro e w' ⟨rfl, hO, hE⟩
          have HA' : Hid (Adding X w w' (k + 1)) := ⟨HAk.out.1.trans (hO.below (Nat.le_refl _)), hE⟩
          clear hO hE HAk HC
          go_wp2
          go_roundw
          case rel => exact ⟨k + 1, by omega, by go_num, HA'⟩
          case measure => simp [intOf]; omega
        · obtain rfl : L = k := by omega
          obtain ⟨hB, lo, hi, hLS, hWin⟩ := HAk.out
          have HBw : Hid (Below w.heap.size w wr) := ⟨hB⟩
          have HW : Hid (Win X L (upS X L) (dnS X L) lo hi) := ⟨hWin⟩
          have HC : Hid _ := ⟨fields_any w.heap.size (upS X L) (dnS X L) lo hi wr hLS⟩
          clear hB hLS hWin HAk
          go_wp2_with fail
          refine HC.out.mono ?_
          rintro e w3 ⟨rfl, hB3⟩
          have HB3 : Hid (Below w.heap.size w w3) := ⟨HBw.out.trans (hB3.mono HBw.out.size)⟩
          clear hB3 HC
          have mk := run_mkI
          have HS : Hid _ := ⟨store_start (upS X L) w3⟩
          obtain ⟨P, eP⟩ : ∃ P, P = upS X L := ⟨_, rfl⟩
          obtain ⟨Q, eQ⟩ : ∃ Q, Q = dnS X L := ⟨_, rfl⟩
          have HP : Hid (P = upS X L) := ⟨eP⟩
          have HQ : Hid (Q = dnS X L) := ⟨eQ⟩
          rw [← eP] at HS HW ⊢
          rw [← eQ] at HW ⊢
          clear eP eQ
          go_wp2_with (refine wpList_store_mid rfl 30 _ _ rfl w3.heap.size 0 (ws P).toArray rfl rfl (HS.out.1.thereA P) (i30'' P) (ws_one P) ?_; refine wpList_store_mid rfl 30 _ _ rfl (w3.heap.size + 1) 0 (ws Q).toArray rfl rfl (HS.out.2.thereA Q) (i30'' Q) (ws_one Q) ?_; obtain ⟨w5, e5, h5⟩ := stored_two P Q w3; change wpList _ _ _ _ _ ((((w3.alloc (.cells z36 30)).alloc (.cells z36 30)).setCells w3.heap.size 0 (ws P)).setCells (w3.heap.size + 1) 0 (ws Q)); rw [← e5]; clear e5 HS; have H5 : Hid _ := ⟨h5⟩; clear h5)
          obtain ⟨b1, b2, b3⟩ := count_start w5
          have HB6 : Hid (Below w.heap.size w ((w5.alloc (.cells mkI 3)).alloc (.cells mkI 3))) := ⟨(HB3.out.trans (H5.out.1.mono HB3.out.size)).trans (b1.mono (Nat.le_trans HB3.out.size H5.out.1.size))⟩
          have HR1 : Hid (Row ((w5.alloc (.cells mkI 3)).alloc (.cells mkI 3)) w3.heap.size 0 36 (wds P)) := ⟨H5.out.2.1.below b1 (by have := H5.out.2.2.2; omega)⟩
          have HR2 : Hid (Row ((w5.alloc (.cells mkI 3)).alloc (.cells mkI 3)) (w3.heap.size + 1) 0 36 (wds Q)) := ⟨H5.out.2.2.1.below b1 (by have := H5.out.2.2.2; omega)⟩
          have HC : Hid (Counting X w5.heap.size ((w5.alloc (.cells mkI 3)).alloc (.cells mkI 3)) ((w5.alloc (.cells mkI 3)).alloc (.cells mkI 3)) 0) := ⟨b2, b3, Below.refl _ _⟩
          have HZ : Hid (w3.heap.size + 1 < w5.heap.size ∧ w.heap.size ≤ w5.heap.size) := ⟨by have := H5.out.2.2.2; omega, Nat.le_trans HB3.out.size H5.out.1.size⟩
          clear b1 b2 b3 mk H5
          obtain ⟨w6, e6⟩ : ∃ y, y = ((w5.alloc (.cells mkI 3)).alloc (.cells mkI 3)) := ⟨_, rfl⟩
          rw [← e6] at HB6 HR1 HR2 HC ⊢
          clear e6
          obtain ⟨B, eB⟩ : ∃ y, y = w5.heap.size := ⟨_, rfl⟩
          rw [← eB] at HC HZ ⊢
          clear eB
          go_loopw [12] (fun i wr => ∃ k : Nat, k ≤ L ∧ i = .int .i64 k ∧ Hid (Counting X B w6 wr k)) (fun i _ => L - (intOf i).toNat)
          case atStart => exact ⟨0, Nat.zero_le _, rfl, HC⟩
          case round =>
            obtain ⟨k, hk, rfl, HCk⟩ := hrel
            clear HC
            by_cases hlt : k < L
            · obtain ⟨p, rfl, q1⟩ := HX.out.at (HB6.out.trans (HCk.out.2.2.mono HZ.out.2)) hlt
              have g0 : (0 : Int) ≤ (k : Int) := by omega
              have g1 : (k : Int) < (L : Int) := by omega
              have fb := fbits
              have hbk := HB.out k hlt
              have hsg : sgn (X k) = 0 ∨ sgn (X k) = 1 := by unfold sgn; omega
              have s1 : ((X k : Nat) : Int) / 9223372036854775808 = (sgn (X k) : Int) := by unfold sgn; omega
              rcases hsg with h1 | h1
              · have HCC : Hid _ := ⟨count_any B (upS X k) k (X k) wr hbk (by omega) HCk.out.1⟩
                have HN : Hid (¬ sgn (X k) = 1) := ⟨by omega⟩
                rw [h1] at s1
                clear h1 hbk
                go_wp2_with fail
                refine HCC.out.mono ?_
                rintro e w' ⟨rfl, hcc, hO⟩
                have HC' : Hid (Counting X B w6 w' (k + 1)) := ⟨HCk.out.up HN.out hcc hO⟩
                clear hcc hO HCk HCC
                go_wp2
                go_roundw
                case rel => exact ⟨k + 1, by omega, by go_num, HC'⟩
                case measure => simp [intOf]; omega
              · have HCC : Hid _ := ⟨count_any (B + 1) (dnS X k) k (X k) wr hbk (by omega) HCk.out.2.1⟩
                have HN : Hid (sgn (X k) = 1) := ⟨h1⟩
                rw [h1] at s1
                clear h1 hbk
                go_wp2_with fail
                refine HCC.out.mono ?_
                rintro e w' ⟨rfl, hcc, hO⟩
                have HC' : Hid (Counting X B w6 w' (k + 1)) := ⟨HCk.out.dn HN.out hcc hO⟩
                clear hcc hO HCk HCC
                go_wp2
                go_roundw
                case rel => exact ⟨k + 1, by omega, by go_num, HC'⟩
                case measure => simp [intOf]; omega
            · obtain rfl : L = k := by omega
              have g1 : ¬ (L : Int) < (L : Int) := by omega
              have hBL := HCk.out.1.1
              have R1 : Row wr w3.heap.size 0 36 (wds P) := HR1.out.below HCk.out.2.2 (by have := HZ.out.1; omega)
              have R2 : Row wr (w3.heap.size + 1) 0 36 (wds Q) := HR2.out.below HCk.out.2.2 HZ.out.1
              have C1 : Cols wr.drew B P L := by rw [HP.out]; exact HCk.out.1
              have C2 : Cols wr (B + 1) Q L := by rw [HQ.out]; exact HCk.out.2.1
              have HBR : Hid (Below w.heap.size w wr) := ⟨HB6.out.trans (HCk.out.2.2.mono HZ.out.2)⟩
              have hz := HZ.out.1
              have hPQ := sum_lt X L L (Nat.le_refl _) hL HO.out
              have TP : Hid (P % 2 ^ 2304 = P) := ⟨small_mod (by rw [HP.out]; exact Nat.lt_of_le_of_lt (Nat.le_add_right _ _) hPQ)⟩
              have TQ : Hid (Q % 2 ^ 2304 = Q) := ⟨small_mod (by rw [HQ.out]; exact Nat.lt_of_le_of_lt (Nat.le_add_left _ _) hPQ)⟩
              have HS : Hid (Two w3.heap.size P Q wr) := ⟨R1, R2⟩
              have HC1 : Hid _ := ⟨pack_any B P L wr.drew (by omega) TP C1⟩
              have HC2 : Hid (Cols wr (B + 1) Q L) := ⟨C2⟩
              have hBL2 : B + 1 < wr.heap.size := C2.1
              clear R1 R2 C1 C2 hPQ HCk
              go_wp2
              refine wp_region_held_drew (S := Two w3.heap.size P Q) (by kernel_rfl) HS.out (fun hHeld => ?_)
              refine takeH 0 (.agg (ws P).toArray) rfl (by kernel_rfl) (by kernel_rfl) (by kernel_rfl) (fun _ _ _ h => h) (by rfl) (fun wz hz => run_load30 rfl rfl hz.1) hHeld ?_
              simp only [Act.put, List.setIfInBounds_toArray, List.set_cons_zero, List.set_cons_succ]
              refine takeH 1 (.slice (some ⟨B, 0, none⟩) 2304 2304) rfl (by kernel_rfl) (by kernel_rfl) (by kernel_rfl) (fun _ _ _ h => h) (by rfl) (fun wz hz => by clear hz; go_simp) hHeld ?_
              simp only [Act.put, List.setIfInBounds_toArray, List.set_cons_zero, List.set_cons_succ]
              refine wpAnyH_ready (rs := [2]) (by kernel_rfl) (by simp) ?_
              refine AllReadyH.cons (o := ⟨_, _, _, _, _, _⟩) rfl (fun K hK => ?_) AllReadyH.nil
              go_simp
              refine HC1.out.mono ?_
              rintro e w7 ⟨rfl, hB7⟩
              have hB7' : Below wr.heap.size wr w7 := (Below.refl wr.heap.size wr).drew.trans hB7
              have hS7 : Two w3.heap.size P Q w7 := ⟨HS.out.1.below hB7' (by omega), HS.out.2.below hB7' (by omega)⟩
              have HC7 : Hid (Cols w7 (B + 1) Q L) := ⟨HC2.out.below hB7' hBL2⟩
              have HB7 : Hid (Below w.heap.size w w7) := ⟨HBR.out.trans (hB7'.mono HBR.out.size)⟩
              have hz7 : wr.heap.size ≤ w7.heap.size := hB7'.size
              clear hB7 hB7' HC1 HC2
              go_wp2_with fail
              refine hK.out _ _ hS7 (fun hHeld => ?_)
              clear hK K
              refine takeH 3 (.bool false) rfl (by kernel_rfl) (by kernel_rfl) (by kernel_rfl) (fun _ _ _ h => h) (by rfl) (fun wz hz => by clear hz; have hq := ws_eq P wz; have hn := ws_neq P wz; go_simp) hHeld ?_
              simp only [Act.put, List.setIfInBounds_toArray, List.set_cons_zero, List.set_cons_succ]
              refine takeH 4 (.bool false) rfl (by kernel_rfl) (by kernel_rfl) (by kernel_rfl) (fun _ _ _ h => h) (by rfl) (fun wz hz => by clear hz; go_simp) hHeld ?_
              simp only [Act.put, List.setIfInBounds_toArray, List.set_cons_zero, List.set_cons_succ]
              refine takeH 5 (.agg (ws Q).toArray) rfl (by kernel_rfl) (by kernel_rfl) (by kernel_rfl) (fun _ _ _ h => h) (by rfl) (fun wz hz => run_load30 rfl rfl hz.2) hHeld ?_
              simp only [Act.put, List.setIfInBounds_toArray, List.set_cons_zero, List.set_cons_succ]
              refine takeH 6 (.slice (some ⟨B + 1, 0, none⟩) 2304 2304) rfl (by kernel_rfl) (by kernel_rfl) (by kernel_rfl) (fun _ _ _ h => h) (by rfl) (fun wz hz => by clear hz; go_simp) hHeld ?_
              simp only [Act.put, List.setIfInBounds_toArray, List.set_cons_zero, List.set_cons_succ]
              refine wpAnyH_ready (rs := [7]) (by kernel_rfl) (by simp) ?_
              refine AllReadyH.cons (o := ⟨_, _, _, _, _, _⟩) rfl (fun K hK => ?_) AllReadyH.nil
              have HC8 : Hid _ := ⟨pack_any (B + 1) Q L w7 (by omega) TQ HC7.out⟩
              go_simp
              refine HC8.out.mono ?_
              rintro e w8 ⟨rfl, hB8⟩
              have hS8 : Two w3.heap.size P Q w8 := ⟨hS7.1.below hB8 (by omega), hS7.2.below hB8 (by omega)⟩
              have HB8 : Hid (Below w.heap.size w w8) := ⟨HB7.out.trans (hB8.mono HB7.out.size)⟩
              clear hB8 HC8 HC7
              go_wp2_with fail
              refine hK.out _ _ hS8 (fun hHeld => ?_)
              clear hK K
              refine takeH 8 (.bool false) rfl (by kernel_rfl) (by kernel_rfl) (by kernel_rfl) (fun _ _ _ h => h) (by rfl) (fun wz hz => by clear hz; have hq := ws_eq Q wz; have hn := ws_neq Q wz; go_simp) hHeld ?_
              simp only [Act.put, List.setIfInBounds_toArray, List.set_cons_zero, List.set_cons_succ]
              refine takeH 9 (.bool false) rfl (by kernel_rfl) (by kernel_rfl) (by kernel_rfl) (fun _ _ _ h => h) (by rfl) (fun wz hz => by clear hz; go_simp) hHeld ?_
              simp only [Act.put, List.setIfInBounds_toArray, List.set_cons_zero, List.set_cons_succ]
              refine wpAnyH_done (by kernel_rfl) ?_ _
              clear hHeld
              have HS8 : Hid (Two w3.heap.size P Q w8) := ⟨hS8⟩
              have HC9 : Hid _ := ⟨window_any P Q lo hi L c x X w8 hL (HX.out.below HB8.out) HB.out HW.out⟩
              clear hS8 hS7 HS HB7 HBR
              go_wp2_with (first
                | (refine wpList_load_mid rfl 30 _ rfl w3.heap.size 0 rfl (ws P) _ HS8.out.1.range und30 rfl (i30' P) ?_; refine wpList_load_mid rfl 30 _ rfl (w3.heap.size + 1) 0 rfl (ws Q) _ HS8.out.2.range und30 rfl (i30' Q) ?_)
                | (go_at_call 12; refine HC9.out.mono ?_; rintro e w9 ⟨rfl, hB9⟩))
              go_ret
              exact ⟨rfl, HB8.out.trans (hB9.mono HB8.out.size)⟩
end Go.Proofs.Qxb6608777aDoor
