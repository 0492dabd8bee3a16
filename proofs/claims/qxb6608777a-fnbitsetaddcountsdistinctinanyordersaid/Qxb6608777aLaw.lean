import Derived.Test.Qxb6608777aEarly
namespace Go.Proofs.Qxb6608777a
open Go.RowKit

/-- The numbers that came in. -/
def Xs (w : World) (x : Option Addr) (L : Nat) (X : Nat → Nat) : Prop := 0 < L → ∃ p, x = some p ∧ p.block < w.heap.size ∧ ∀ i, i < L → w.cell? (p.add i) = some (.int .i64 (X i : Nat))
theorem Xs.at {w wr : World} {x : Option Addr} {L k : Nat} {X : Nat → Nat} (h : Xs w x L X) (hB : Below w.heap.size w wr) (hk : k < L) : ∃ p, x = some p ∧ wr.cell? (p.add k) = some (.int .i64 (X k : Nat)) := by
  obtain ⟨p, e, hp, hc⟩ := h (by omega)
  exact ⟨p, e, (hB.cell (p := p.add k) (by unfold Addr.add; split <;> exact hp)).trans (hc k hk)⟩

theorem Stage.up {w wr : World} {Z1 Z2 n L m : Nat} {X : Nat → Nat} {M1 : Nat → Bool} (hm : m < L) (h : Stage w wr Z1 Z2 n M1 (addM (dn X L (L - (m + 1))) (X m))) : Stage w wr Z1 Z2 n M1 (dn X L (L - m)) := by
  have e : dn X L (L - m) = addM (dn X L (L - (m + 1))) (X m) := by
    rw [show L - m = L - (m + 1) + 1 by omega]
    show addM (dn X L (L - (m + 1))) (X (L - 1 - (L - (m + 1)))) = _
    rw [show L - 1 - (L - (m + 1)) = m by omega]
  rw [e]; exact h
theorem Stage.all {w wr : World} {Z1 Z2 n L : Nat} {X : Nat → Nat} {M1 : Nat → Bool} (h : Stage w wr Z1 Z2 n M1 (dn X L (L - 0))) : Stage w wr Z1 Z2 n M1 (upTo X L) := by
  rw [Nat.sub_zero, dn_all] at h; exact h
theorem Stage.still {w wr : World} {Z1 Z2 n L k : Nat} {X : Nat → Nat} {M1 : Nat → Bool} (hk : k < L) (h : Stage w wr Z1 Z2 n M1 (addM (upTo X L) (X k))) : Stage w wr Z1 Z2 n M1 (upTo X L) := by
  rw [full_add hk] at h; exact h

theorem bit_test (v j : Nat) (hv : v < 18446744073709551616) : (bits BinOp.and IntKind.u64 ((v : Int) / 2 ^ j) 1 == 1) = v.testBit j := by
  have h1 : v / 2 ^ j ≤ v := Nat.div_le_self _ _
  have e : ((v : Int) / 2 ^ j) = ((v / 2 ^ j : Nat) : Int) := by simp
  have h2 := u64_and_nat (v / 2 ^ j) 1 (by omega) (by omega)
  rw [e, show (1 : Int) = ((1 : Nat) : Int) from rfl, h2, Nat.and_one_is_mod, Nat.testBit_eq_decide_div_mod_eq]
  by_cases h : v / 2 ^ j % 2 = 1
  · rw [h]; rfl
  · have h0 : v / 2 ^ j % 2 = 0 := by omega
    rw [h0]; rfl

set_option maxRecDepth 100000 in
set_option maxHeartbeats 4000000 in
theorem law_good (s : Nat) (x : Option Addr) (L c : Nat) (X : Nat → Nat) (w : World) (hs : s ≤ 65536) (hL : L ≤ 65536) (hX : Xs w x L X) (hok : ∀ t, t < L → X t < s) :
    Calls Try.prog 3 #[.int .i64 (s : Int), .slice x L c] w fun e w' => e = .returned (.bool true) ∧ Below w.heap.size w w' := by
  have HX : Hid (Xs w x L X) := ⟨hX⟩
  have HO : Hid (∀ t, t < L → X t < s) := ⟨hok⟩
  obtain ⟨n, hnn⟩ : ∃ n, Hid ((s + 63) / 64 = n) := ⟨_, ⟨rfl⟩⟩
  have hn1 : n ≤ 1024 := by have := hnn.out; omega
  have hn2 : s ≤ n * 64 := by have := hnn.out; omega
  have gn : ¬ ((n : Int) * 64 < (s : Int)) := by omega
  have hST : Hid (Stage w ((w.alloc (.cells (mkW n) 28)).alloc (.cells (mkW n) 28)) w.heap.size (w.heap.size + 1) n (fun _ => false) (fun _ => false)) := ⟨Stage.new w n⟩
  clear hX hok
  go_enter Try.func3, Try.ntmps3
  go_wp2_with (go_at_call 5; refine (bytes_yes _ _ _ _ _ hL).mono ?_; rintro e w' ⟨rfl, hw⟩; subst hw)
  go_loop [5] (fun i => ∃ k : Nat, k ≤ L ∧ i = .int .i64 k) (fun i => L - (intOf i).toNat)
  case atStart => exact ⟨0, Nat.zero_le _, rfl⟩
  case round =>
    obtain ⟨k, hk, rfl⟩ := hrel
    by_cases hlt : k < L
    · obtain ⟨p, rfl, q1⟩ := HX.out.at (Below.refl _ _) hlt
      have g0 : (0 : Int) ≤ (k : Int) := by omega
      have g1 : (k : Int) < (L : Int) := by omega
      have hXk := HO.out k hlt
      have h0' : ¬ ((X k : Nat) : Int) < 0 := by omega
      have h1' : ¬ (s : Int) ≤ ((X k : Nat) : Int) := by omega
      go_wp2
      go_round
      case rel => exact ⟨k + 1, by omega, by go_num⟩
      case measure => simp [intOf]; omega
    · clear hk
      go_wp2_with (first
        | (go_at_call 6; refine (newBS _ _ hs).mono ?_; rintro e w' ⟨rfl, hw⟩; rw [hnn.out] at hw ⊢; subst hw))
      clear hlt
      go_loopw [8] (fun i wr => ∃ k : Nat, k ≤ L ∧ i = .int .i64 k ∧ Hid (Stage w wr w.heap.size (w.heap.size + 1) n (upTo X k) (fun _ => false))) (fun i _ => L - (intOf i).toNat)
      case atStart => exact ⟨0, Nat.zero_le _, rfl, hST⟩
      case round =>
        obtain ⟨k, hk, rfl, HS⟩ := hrel
        by_cases hlt : k < L
        · obtain ⟨p, rfl, q1⟩ := HX.out.at HS.out.bel hlt
          have g0 : (0 : Int) ≤ (k : Int) := by omega
          have g1 : (k : Int) < (L : Int) := by omega
          have hXk := HO.out k hlt
          go_wp2_with fail
          refine (zadd w.heap.size n n (X k) (upTo X k) _ (by omega) (by omega) hn1 HS.out.one).mono ?_
          rintro e w' ⟨rfl, hbs, v, rfl⟩
          have HS' : Hid (Stage w _ w.heap.size (w.heap.size + 1) n (upTo X (k + 1)) (fun _ => false)) := ⟨HS.out.add1 hbs⟩
          clear hbs HS
          go_wp2
          go_roundw
          case rel => exact ⟨k + 1, by omega, by go_num, HS'⟩
          case measure => simp [intOf]; omega
        · obtain rfl : L = k := by omega
          go_wp2
          go_loopw [9] (fun i wr => ∃ r : Nat, r ≤ L ∧ i = .int .i64 ((r : Int) - 1) ∧ Hid (Stage w wr w.heap.size (w.heap.size + 1) n (upTo X L) (dn X L (L - r)))) (fun i _ => (intOf i + 1).toNat)
          case atStart => exact ⟨L, Nat.le_refl _, rfl, by rw [Nat.sub_self]; exact HS⟩
          case round =>
            obtain ⟨r, hr, rfl, HS⟩ := hrel
            cases r with
            | succ m =>
              have em : ((m + 1 : Nat) : Int) - 1 = (m : Int) := by omega
              rw [em]
              have hlt : m < L := by omega
              obtain ⟨p, rfl, q1⟩ := HX.out.at HS.out.bel hlt
              have g0 : (0 : Int) ≤ (m : Int) := by omega
              have g1 : (m : Int) < (L : Int) := by omega
              have hXk := HO.out m hlt
              go_wp2_with fail
              refine (zadd (w.heap.size + 1) n n (X m) (dn X L (L - (m + 1))) _ (by omega) (by omega) hn1 HS.out.two).mono ?_
              rintro e w' ⟨rfl, hbs, v, rfl⟩
              have HS' : Hid (Stage w _ w.heap.size (w.heap.size + 1) n (upTo X L) (dn X L (L - m))) := ⟨Stage.up hlt (HS.out.add2 hbs)⟩
              clear hbs HS
              go_wp2
              go_roundw
              case rel => exact ⟨m, by omega, by go_num, HS'⟩
              case measure => simp [intOf]
            | zero =>
              rw [show (((0 : Nat) : Int) - 1) = -1 from rfl]
              have HS2 : Hid (Stage w wr w.heap.size (w.heap.size + 1) n (upTo X L) (upTo X L)) := ⟨Stage.all HS.out⟩
              clear HS
              go_wp2
              go_loopw [10] (fun i wr => ∃ k : Nat, k ≤ L ∧ i = .int .i64 k ∧ Hid (Stage w wr w.heap.size (w.heap.size + 1) n (upTo X L) (upTo X L))) (fun i _ => L - (intOf i).toNat)
              case atStart => exact ⟨0, Nat.zero_le _, rfl, HS2⟩
              case round =>
                obtain ⟨k, hk, rfl, HS⟩ := hrel
                by_cases hlt : k < L
                · obtain ⟨p, rfl, q1⟩ := HX.out.at HS.out.bel hlt
                  have g0 : (0 : Int) ≤ (k : Int) := by omega
                  have g1 : (k : Int) < (L : Int) := by omega
                  have hXk := HO.out k hlt
                  go_wp2_with fail
                  refine (zadd (w.heap.size + 1) n n (X k) (upTo X L) _ (by omega) (by omega) hn1 HS.out.two).mono ?_
                  rintro e w' ⟨rfl, hbs, v, rfl⟩
                  have HS' : Hid (Stage w _ w.heap.size (w.heap.size + 1) n (upTo X L) (upTo X L)) := ⟨Stage.still hlt (HS.out.add2 hbs)⟩
                  clear hbs HS
                  go_wp2
                  go_roundw
                  case rel => exact ⟨k + 1, by omega, by go_num, HS'⟩
                  case measure => simp [intOf]; omega
                · clear hk
                  have mk := run_mkB s hs
                  go_wp2
                  have z1 := HS.out.one.1
                  have z2 := HS.out.two.1
                  have HS3 : Hid (Stage w (wr.alloc (.cells (mkB s) 4)) w.heap.size (w.heap.size + 1) n (upTo X L) (upTo X L)) := ⟨HS.out.alloc _⟩
                  have SE : Hid (Seen (wr.alloc (.cells (mkB s) 4)) wr.heap.size s (upTo X 0)) := ⟨Seen.new wr s⟩
                  clear mk HS hlt
                  obtain ⟨wy, ey⟩ : ∃ y, y = wr.alloc (.cells (mkB s) 4) := ⟨_, rfl⟩
                  obtain ⟨Y, eY⟩ : ∃ y, y = wr.heap.size := ⟨_, rfl⟩
                  rw [← ey] at HS3 SE ⊢
                  rw [← eY] at z1 z2 SE ⊢
                  clear ey eY
                  go_loopw [12, 13] (fun d i wq => ∃ k d' : Nat, k ≤ L ∧ d' ≤ s ∧ i = .int .i64 k ∧ d = .int .i64 d' ∧ Hid (d' = cnt (upTo X k) s) ∧ Hid (Stage w wq w.heap.size (w.heap.size + 1) n (upTo X L) (upTo X L)) ∧ Hid (Seen wq Y s (upTo X k))) (fun _ i _ => L - (intOf i).toNat)
                  case atStart => exact ⟨0, 0, Nat.zero_le _, Nat.zero_le _, rfl, rfl, ⟨(cnt_none s).symm⟩, HS3, SE⟩
                  case round =>
                    obtain ⟨k, d, hk, hd, rfl, rfl, HD, HS, HE⟩ := hrel
                    clear HS3 SE
                    by_cases hlt : k < L
                    · obtain ⟨p, rfl, q1⟩ := HX.out.at HS.out.bel hlt
                      have g0 : (0 : Int) ≤ (k : Int) := by omega
                      have g1 : (k : Int) < (L : Int) := by omega
                      have hXk := HO.out k hlt
                      have g2 : (0 : Int) ≤ ((X k : Nat) : Int) := by omega
                      have g3 : ((X k : Nat) : Int) < (s : Int) := by omega
                      obtain ⟨q2, q3⟩ := HE.out.2 (X k) hXk
                      cases hmem : upTo X k (X k) with
                      | true =>
                        have HU : Hid (upTo X (k + 1) = upTo X k) := ⟨addM_in hmem⟩
                        rw [hmem] at q2
                        clear hmem
                        go_wp2
                        go_roundw
                        case rel => exact ⟨k + 1, d, by omega, hd, by go_num, rfl, ⟨by rw [HU.out]; exact HD.out⟩, HS, ⟨by rw [HU.out]; exact HE.out⟩⟩
                        case measure => simp [intOf]; omega
                      | false =>
                        have HU : Hid (cnt (upTo X (k + 1)) s = d + 1) := ⟨by rw [HD.out]; exact cnt_add hmem s hXk⟩
                        have hle : d + 1 ≤ s := by have h1 := HU.out; have h2 := cnt_le (upTo X (k + 1)) s; omega
                        rw [hmem] at q2
                        clear hmem
                        have HS' : Hid (Stage w _ w.heap.size (w.heap.size + 1) n (upTo X L) (upTo X L)) := ⟨HS.out.see (x := X k) (.bool true) z1 z2⟩
                        have HE' : Hid (Seen _ Y s (upTo X (k + 1))) := ⟨HE.out.add hXk⟩
                        clear HS HE
                        go_wp2
                        go_roundw
                        case rel => exact ⟨k + 1, d + 1, by omega, hle, by go_num, by go_num, ⟨HU.out.symm⟩, HS', HE'⟩
                        case measure => simp [intOf]; omega
                    · obtain rfl : L = k := by omega
                      have HF : Hid (d = cnt (upTo X L) (n * 64)) := ⟨by rw [cnt_full HO.out hn2]; exact HD.out⟩
                      clear HE HD
                      go_wp2
                      have HS6 : Hid (Stage w wr w.heap.size (w.heap.size + 1) n (upTo X L) (upTo X L)) := HS
                      clear HS hk hlt
                      go_loopw [14, 15] (fun o i wz => ∃ k q nq : Nat, k ≤ n ∧ q ≤ k * 64 ∧ i = .int .i64 k ∧ o = .int .i64 q ∧ Hid (q = cnt (upTo X L) (k * 64)) ∧ wz = wr.drewN nq) (fun _ i _ => n - (intOf i).toNat)
                      case atStart => exact ⟨0, 0, 0, Nat.zero_le _, Nat.le_refl _, rfl, rfl, ⟨rfl⟩, rfl⟩
                      case round =>
                        obtain ⟨k, q, nq, hk, hq, rfl, rfl, HQ, rfl⟩ := hrel
                        by_cases hlt : k < n
                        · obtain ⟨v, hv, c1, _, b1⟩ := HS6.out.one.2 k hlt
                          obtain ⟨v', hv', c2, _, b2⟩ := HS6.out.two.2 k hlt
                          obtain rfl : v = v' := Nat.eq_of_testBit_eq (fun j => by rw [b1 j, b2 j])
                          have HB : Hid (∀ j, v.testBit j = (decide (j < 64) && upTo X L (k * 64 + j))) := ⟨b1⟩
                          have g0 : (0 : Int) ≤ (k : Int) := by omega
                          have g1 : (k : Int) < (n : Int) := by omega
                          clear b1 b2 hv'
                          go_wp2
                          go_quiet (fail)
                          go_wp2
                          go_loop [14, 16] (fun o i => ∃ j q : Nat, j ≤ 64 ∧ q ≤ k * 64 + j ∧ i = .int .i64 j ∧ o = .int .i64 q ∧ Hid (q = cnt (upTo X L) (k * 64 + j))) (fun _ i => 64 - (intOf i).toNat)
                          case atStart => exact ⟨0, q, Nat.zero_le _, hq, rfl, rfl, HQ⟩
                          case round =>
                            obtain ⟨j, q, hj, hq, rfl, rfl, HQ⟩ := hrel
                            by_cases hlt : j < 64
                            · have ht := bit_test v j hv
                              have hM : v.testBit j = upTo X L (k * 64 + j) := by rw [HB.out j]; simp [hlt]
                              rw [hM] at ht
                              have k0 : (0 : Int) ≤ (j : Int) := by omega
                              have k1 : (j : Int) < 64 := by omega
                              clear hM
                              cases hu : upTo X L (k * 64 + j) with
                              | true =>
                                have HU : Hid (q + 1 = cnt (upTo X L) (k * 64 + (j + 1))) := ⟨by rw [HQ.out]; show _ = cnt (upTo X L) (k * 64 + j) + (if upTo X L (k * 64 + j) = true then 1 else 0); rw [hu]; rfl⟩
                                rw [hu] at ht
                                clear hu HQ
                                go_wp2
                                go_round
                                case rel => exact ⟨j + 1, by omega, q + 1, by omega, by omega, by omega, HU⟩
                                case measure => simp [intOf]; omega
                              | false =>
                                have HU : Hid (q = cnt (upTo X L) (k * 64 + (j + 1))) := ⟨by rw [HQ.out]; show _ = cnt (upTo X L) (k * 64 + j) + (if upTo X L (k * 64 + j) = true then 1 else 0); rw [hu]; rfl⟩
                                rw [hu] at ht
                                clear hu HQ
                                go_wp2
                                go_round
                                case rel => exact ⟨j + 1, by omega, q, by omega, by omega, rfl, HU⟩
                                case measure => simp [intOf]; omega
                            · obtain rfl : j = 64 := by omega
                              have HU : Hid (q = cnt (upTo X L) ((k + 1) * 64)) := ⟨by rw [show (k + 1) * 64 = k * 64 + 64 by omega]; exact HQ.out⟩
                              clear HQ hj
                              go_wp2
                              go_roundw
                              case rel => exact ⟨k + 1, q, _, by omega, by omega, by go_num, rfl, HU, rfl⟩
                              case measure => simp [intOf]; omega
                        · obtain rfl : n = k := by omega
                          have hqd : d = q := by rw [HF.out, HQ.out]
                          subst hqd
                          clear HF HQ
                          go_wp2
                          go_ret
                          exact ⟨rfl, below_drewN HS6.out.bel _⟩
end Go.Proofs.Qxb6608777a
