import Derived.Test.Qxb6608702aSetB
namespace Go.Proofs.Qxb6608702a
open Go.RowKit

/-- A big.Int in block P whose words are those of the digits D. -/
def IntAt (w : World) (P : Nat) (D : Nat → Int) : Prop :=
  P < w.heap.size ∧ ∃ za L c, w.cell? ⟨P, 1, none⟩ = some (.slice za L c) ∧ L ≤ 60000 ∧ (0 < L → ∃ Z, za = some ⟨Z, 0, none⟩ ∧ Z < w.heap.size ∧ ∀ k, k < L → w.cell? ⟨Z, k, none⟩ = some (.int .u64 (word D k))) ∧ ∀ t, L * 8 ≤ t → D t = 0
theorem IntAt.below {w w' : World} {P : Nat} {D : Nat → Int} (h : IntAt w P D) {B : Nat} (hB : Below B w w') (hlt : w.heap.size ≤ B) : IntAt w' P D := by
  obtain ⟨hP, za, L, c, hf, hL, hz, hD⟩ := h
  refine ⟨Nat.lt_of_lt_of_le hP hB.size, za, L, c, (hB.cell (p := ⟨P, 1, none⟩) (Nat.lt_of_lt_of_le hP hlt)).trans hf, hL, fun h0 => ?_, hD⟩
  obtain ⟨Z, e, hZ, hc⟩ := hz h0
  exact ⟨Z, e, Nat.lt_of_lt_of_le hZ hB.size, fun k hk => (hB.cell (p := ⟨Z, k, none⟩) (Nat.lt_of_lt_of_le hZ hlt)).trans (hc k hk)⟩

set_option maxHeartbeats 1000000 in
theorem setBytes_none (x : Option Addr) (c : Nat) (w : World) : Calls Try.prog 20 #[.slice none 0 0, .slice x 0 c] w fun e w' => e = .returned (.slice none 0 0) ∧ w' = w := by
  go_enter Try.func20, Try.ntmps20
  go_wp2
  refine wp_loop_rounds 1 ?_
  rw [rounds_succ]
  go_wp2
  refine wp_loop_rounds 1 ?_
  rw [rounds_succ]
  go_wp2
  go_ret
  exact ⟨rfl, rfl⟩

theorem IntAt.put {w : World} {P : Nat} {D : Nat → Int} {za : Option Addr} {L c : Nat} (hP : P < w.heap.size) (d1 : ∃ v, w.cell? ⟨P, 1, none⟩ = some v) (hL : L ≤ 60000)
    (hz : 0 < L → ∃ Z, za = some ⟨Z, 0, none⟩ ∧ Z ≠ P ∧ Z < w.heap.size ∧ ∀ k, k < L → w.cell? ⟨Z, k, none⟩ = some (.int .u64 (word D k))) (hD : ∀ t, L * 8 ≤ t → D t = 0) :
    IntAt ((w.setCell ⟨P, 1, none⟩ (.slice za L c)).setCell ⟨P, 0, none⟩ (.bool false)) P D := by
  obtain ⟨v, hv⟩ := d1
  have hout : ∀ b o, b ≠ P → ((w.setCell ⟨P, 1, none⟩ (.slice za L c)).setCell ⟨P, 0, none⟩ (.bool false)).cell? ⟨b, o, none⟩ = w.cell? ⟨b, o, none⟩ := fun b o hne => by
    rw [World.cell?_setCell_other _ _ _ _ (fun e => by injection e with e1 e2; exact hne e1.symm), World.cell?_setCell_other _ _ _ _ (fun e => by injection e with e1 e2; exact hne e1.symm)]
  refine ⟨by simpa using hP, za, L, c, ?_, hL, fun h0 => ?_, hD⟩
  · rw [World.cell?_setCell_other _ _ _ _ (fun e => by injection e with e1 e2; cases e2)]
    exact World.cell?_setCell_same _ _ _ hv
  · obtain ⟨Z, e, hne, hZ, hc⟩ := hz h0
    exact ⟨Z, e, by simpa using hZ, fun k hk => (hout Z k hne).trans (hc k hk)⟩

set_option maxHeartbeats 1000000 in
theorem intSetBytes_any (P : Nat) (v : Value) (n : Nat) (A : Nat → Int) (w : World) (hn : n ≤ 65536) (hv : Row w v n A) (hvc : ∀ x n c, v = .slice x n c → n ≤ c) (hA : Byt n A) (hP : P < w.heap.size) (c0 : w.cell? ⟨P, 0, none⟩ = some (.bool false)) (c1 : w.cell? ⟨P, 1, none⟩ = some (.slice none 0 0)) (f0 : w.frozen? ⟨P, 0, none⟩ = false) (f1 : w.frozen? ⟨P, 1, none⟩ = false) :
    Calls Try.prog 13 #[.pointer (some ⟨P, 0, none⟩), v] w fun e w' => e = .returned (.pointer (some ⟨P, 0, none⟩)) ∧ IntAt w' P (dig A n) ∧ Below P w w' := by
  by_cases h0 : n = 0
  · subst h0
    obtain ⟨x, c, rfl⟩ := hv.slice
    clear hv hA hvc
    go_enter Try.func13, Try.ntmps13
    go_wp2_with (go_at_call 20; refine (setBytes_none _ _ _).mono ?_; rintro e w1 ⟨rfl, rfl⟩)
    go_ret
    exact ⟨rfl, IntAt.put hP ⟨_, c1⟩ (by omega) (fun h => absurd h (Nat.lt_irrefl 0)) (fun t _ => by unfold dig; rw [if_neg (by omega)]), ((Below.refl P _).setCell (Nat.le_refl P) _).setCell (Nat.le_refl P) _⟩
  · obtain ⟨b, o, c, rfl, hb, hc⟩ := hv.some h0
    have hcc := hvc _ _ _ rfl
    clear hvc hv
    go_enter Try.func13, Try.ntmps13
    go_wp2_with fail
    refine (setBytes_some b o n c A w (by omega) hn hcc hA hb hc).mono ?_
    rintro e w1 ⟨L, cc, hL, hLc, rfl, hB, hroom, hlaid, hz⟩
    have d0 := (hB.cell (p := ⟨P, 0, none⟩) hP).trans c0
    have d1 := (hB.cell (p := ⟨P, 1, none⟩) hP).trans c1
    have g0 := (hB.frozen (p := ⟨P, 0, none⟩) hP).trans f0
    have g1 := (hB.frozen (p := ⟨P, 1, none⟩) hP).trans f1
    clear c0 c1 f0 f1 hc
    go_wp2
    go_ret
    exact ⟨rfl, IntAt.put (Nat.lt_trans hP hroom) ⟨_, d1⟩ hL (fun _ => ⟨w.heap.size, rfl, by omega, hroom, hlaid⟩) hz, ((hB.mono (Nat.le_of_lt hP)).setCell (Nat.le_refl P) _).setCell (Nat.le_refl P) _⟩
end Go.Proofs.Qxb6608702a
