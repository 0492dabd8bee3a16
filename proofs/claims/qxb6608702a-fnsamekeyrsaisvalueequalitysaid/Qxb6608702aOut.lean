import Derived.Test.Qxb6608702aInt
namespace Go.Proofs.Qxb6608702a
open Go.RowKit

/-- The k-th word, shifted right by j bytes. -/
def dval (D : Nat → Int) (k : Nat) : Nat → Int
  | 0 => word D k
  | j + 1 => dval D k j / 256
theorem dval_lo {D : Nat → Int} (h : DByt D) (k : Nat) : ∀ j, 0 ≤ dval D k j
  | 0 => word_lo h k
  | j + 1 => by have := dval_lo h k j; show 0 ≤ dval D k j / 256; omega
theorem dval_hi {D : Nat → Int} (h : DByt D) (k : Nat) : ∀ j, dval D k j < 18446744073709551616
  | 0 => word_hi h k
  | j + 1 => by have := dval_hi h k j; have := dval_lo h k j; show dval D k j / 256 < _; omega
theorem dval_mod {D : Nat → Int} (h : DByt D) (k : Nat) {j : Nat} (hj : j < 8) : dval D k j % 256 = D (k * 8 + j) := by
  have h0 := h (k * 8); have h1 := h (k * 8 + 1); have h2 := h (k * 8 + 2); have h3 := h (k * 8 + 3); have h4 := h (k * 8 + 4); have h5 := h (k * 8 + 5); have h6 := h (k * 8 + 6); have h7 := h (k * 8 + 7)
  match j, hj with
  | 0, _ => simp only [dval, word, Nat.add_zero]; omega
  | 1, _ => simp only [dval, word]; omega
  | 2, _ => simp only [dval, word]; omega
  | 3, _ => simp only [dval, word]; omega
  | 4, _ => simp only [dval, word]; omega
  | 5, _ => simp only [dval, word]; omega
  | 6, _ => simp only [dval, word]; omega
  | 7, _ => simp only [dval, word]; omega

/-- The bytes written into block F from its end on: the first k are laid. -/
structure OB (w : World) (F N k : Nat) (D : Nat → Int) (wr : World) : Prop where
  below : Below F w wr
  room : F < wr.heap.size
  cell : ∀ o, o < N → ∃ v, wr.cell? ⟨F, o, none⟩ = some v
  free : ∀ o, wr.frozen? ⟨F, o, none⟩ = false
  laid : ∀ t, t < k → ∀ p, p + t + 1 = N → wr.cell? ⟨F, p, none⟩ = some (.int .u8 (D t))
theorem OB.put {w : World} {F N k : Nat} {D : Nat → Int} {wr : World} (h : OB w F N k D wr) {p : Nat} (hp : p + k + 1 = N) : OB w F N (k + 1) D (wr.setCell ⟨F, p, none⟩ (.int .u8 (D k))) := by
  have hout : ∀ o, o ≠ p → (wr.setCell ⟨F, p, none⟩ (.int .u8 (D k))).cell? ⟨F, o, none⟩ = wr.cell? ⟨F, o, none⟩ := fun o hne =>
    World.cell?_setCell_other _ _ _ _ (fun e => by injection e with e1 e2; exact hne e2.symm)
  have hin : (wr.setCell ⟨F, p, none⟩ (.int .u8 (D k))).cell? ⟨F, p, none⟩ = some (.int .u8 (D k)) := by
    obtain ⟨v, hv⟩ := h.cell p (by omega)
    exact World.cell?_setCell_same _ _ _ hv
  refine ⟨h.below.setCell (Nat.le_refl _) _, by simpa using h.room, fun o ho => ?_, fun o => by rw [World.frozen?_setCell]; exact h.free o, fun t ht q hq => ?_⟩
  · by_cases e : o = p
    · subst e; exact ⟨_, hin⟩
    · obtain ⟨v, hv⟩ := h.cell o ho
      exact ⟨v, (hout o e).trans hv⟩
  · rcases Nat.lt_succ_iff_lt_or_eq.1 ht with hlt | rfl
    · exact (hout q (by omega)).trans (h.laid t hlt q hq)
    · obtain rfl : q = p := by omega
      exact hin

/-- It returns where the digits that count begin; the row is written. -/
def Wrote (F N : Nat) (D : Nat → Int) (w : World) (e : Ending) (w' : World) : Prop :=
  ∃ S q : Nat, q + S = N ∧ e = .returned (.int .i64 q) ∧ (∀ t, S ≤ t → t < N → D t = 0) ∧ (S = 0 ∨ D (S - 1) ≠ 0) ∧ OB w F N N D w'
theorem Wrote.mk {F N S q : Nat} {D : Nat → Int} {w w' : World} {v : Value} (h : q + S = N) (hv : v = .int .i64 q) (h1 : ∀ t, S ≤ t → t < N → D t = 0) (h2 : S = 0 ∨ D (S - 1) ≠ 0) (h3 : OB w F N N D w') : Wrote F N D w (.returned v) w' := ⟨S, q, h, by rw [hv], h1, h2, h3⟩

set_option maxRecDepth 100000 in
set_option maxHeartbeats 4000000 in
theorem bytes50 (Z F L N c : Nat) (D : Nat → Int) (w : World) (hD : DByt D) (hL : N ≤ 480000) (hN : Hid (L * 8 = N)) (hZ : Z < F) (hc : ∀ k, k < L → w.cell? ⟨Z, k, none⟩ = some (.int .u64 (word D k))) (hO : OB w F N 0 D w) :
    Calls Try.prog 50 #[.slice (some ⟨Z, 0, none⟩) L c, .slice (some ⟨F, 0, none⟩) N N] w (Wrote F N D w) := by
  have HC : Hid (∀ k, k < L → w.cell? ⟨Z, k, none⟩ = some (.int .u64 (word D k))) := hc
  have HO : Hid (OB w F N 0 D w) := hO
  have hL1 : L ≤ N := by have := hN.out; omega
  clear hc hO
  go_enter Try.func50, Try.ntmps50
  go_wp2
  go_loopw [4, 12] (fun vi vk wr => ∃ k q : Nat, k ≤ L ∧ Hid (q + k * 8 = N) ∧ q ≤ N ∧ vi = .int .i64 q ∧ vk = .int .i64 k ∧ OB w F N (k * 8) D wr) (fun _ vk _ => L - (intOf vk).toNat)
  case atStart => exact ⟨0, N, Nat.zero_le _, by show N + 0 * 8 = N; omega, Nat.le_refl _, rfl, rfl, by simpa using HO.out⟩
  case round =>
    obtain ⟨k, q, hk, hq, hqL, rfl, rfl, hT⟩ := hrel
    by_cases hlt : k < L
    · have c0 := (hT.below.cell (p := ⟨Z, k, none⟩) hZ).trans (HC.out k hlt)
      have g0 : (k : Int) < (L : Int) := by omega
      have Hq : Hid (q + k * 8 = N) := hq
      clear hq
      go_wp2
      go_loopw [4, 6, 7] (fun vi vd vj wr => ∃ j q : Nat, j ≤ 8 ∧ Hid (q + (k * 8 + j) = N) ∧ q ≤ N ∧ vi = .int .i64 q ∧ vd = .int .u64 (dval D k j) ∧ vj = .int .i64 j ∧ OB w F N (k * 8 + j) D wr) (fun _ _ vj _ => 8 - (intOf vj).toNat)
      case atStart => exact ⟨0, q, Nat.zero_le _, by show q + (k * 8 + 0) = N; have := Hq.out; omega, hqL, rfl, rfl, rfl, hT⟩
      case round =>
        obtain ⟨j, q2, hj, hq2, hq2N, rfl, rfl, rfl, hT2⟩ := hrel
        by_cases hj8 : j < 8
        · obtain ⟨m, hm⟩ : ∃ m, Hid (m + 1 = q2) := ⟨q2 - 1, by show q2 - 1 + 1 = q2; have := hq2.out; have := hN.out; omega⟩
          have em : (q2 : Int) - 1 = (m : Int) := by have := hm.out; omega
          have hmN : (m : Int) < (N : Int) := by have := hm.out; omega
          have hm0 : (0 : Int) ≤ (m : Int) := by omega
          have d0 := dval_lo hD k j
          have d1 := dval_hi hD k j
          have e0 := dval_mod hD k hj8
          have e1 : dval D k j / 256 = dval D k (j + 1) := rfl
          obtain ⟨v, cm⟩ := hT2.cell m (by have := hm.out; omega)
          have fm := hT2.free m
          have HP := hT2.put (p := m) (by have := hm.out; have := hq2.out; omega)
          have HP2 : Hid (OB w F N (k * 8 + j + 1) D (wr.setCell ⟨F, m, none⟩ (.int .u8 (D (k * 8 + j))))) := HP
          clear HP
          go_wp2
          go_roundw
          case rel => exact ⟨j + 1, m, by omega, by show m + (k * 8 + (j + 1)) = N; have := hm.out; have := hq2.out; omega, by omega, rfl, rfl, by go_num, HP2.out⟩
          case measure => simp [intOf]; omega
        · obtain rfl : j = 8 := by omega
          clear hj8
          go_wp2
          go_roundw
          case rel => exact ⟨k + 1, q2, by omega, by show q2 + (k + 1) * 8 = N; have := hq2.out; omega, hq2N, rfl, by go_num, by have := hT2; rwa [show k * 8 + 8 = (k + 1) * 8 by omega] at this⟩
          case measure => simp [intOf]; omega
    · obtain rfl : k = L := by omega
      have hq0 : q = 0 := by have := hq.out; have := hN.out; omega
      subst hq0
      have hT3 : OB w F N N D wr := by have := hT; rwa [hN.out] at this
      have HT3 : Hid (OB w F N N D wr) := hT3
      clear hT3 hT hlt hq
      go_wp2
      go_loopw [4] (fun vi wx => wx = wr ∧ ∃ q S : Nat, Hid (q + S = N) ∧ q ≤ N ∧ vi = .int .i64 q ∧ Hid (∀ t, S ≤ t → t < N → D t = 0)) (fun vi _ => N - (intOf vi).toNat)
      case atStart => exact ⟨rfl, 0, N, by show 0 + N = N; omega, Nat.zero_le _, rfl, fun t h1 h2 => by omega⟩
      case round =>
        obtain ⟨rfl, q, S, hqS, hqN, rfl, hz⟩ := hrel
        by_cases hlt : q < N
        · have cq := HT3.out.laid (S - 1) (by have := hqS.out; omega) q (by have := hqS.out; omega)
          have g1 : (q : Int) < (N : Int) := by omega
          have g2 : (0 : Int) ≤ (q : Int) := by omega
          by_cases hd : D (S - 1) = 0
          · have HD : Hid (D (S - 1) = 0) := hd
            rw [hd] at cq
            clear hd
            go_wp2
            go_roundw
            case rel => exact ⟨trivial, q + 1, S - 1, by show q + 1 + (S - 1) = N; have := hqS.out; omega, by omega, by go_num, fun t h1 h2 => by by_cases e : t = S - 1; rw [e]; exact HD.out; exact hz.out t (by omega) h2⟩
            case measure => simp [intOf]; omega
          · have hd' : (D (S - 1) == 0) = false := by simpa using hd
            have HD : Hid (D (S - 1) ≠ 0) := hd
            clear hd
            go_wp2
            go_ret
            exact Wrote.mk hqS.out rfl hz.out (Or.inr HD.out) HT3.out
        · obtain rfl : q = N := by omega
          clear hlt
          go_wp2
          go_ret
          exact Wrote.mk hqS.out rfl hz.out (Or.inl (by have := hqS.out; omega)) HT3.out
end Go.Proofs.Qxb6608702a
