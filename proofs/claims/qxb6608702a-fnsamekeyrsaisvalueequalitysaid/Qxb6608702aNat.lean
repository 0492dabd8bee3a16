import Derived.Test.Qxb6608702aDig
namespace Go.Proofs.Qxb6608702a
open Go.RowKit

/-- The cells of a new row of words. -/
def mkW (c : Nat) : Array Value := madeCells #[.int .u64 0] (c * 1)
theorem run_mkW (n c : Nat) (hnc : n ≤ c) (hn : c ≤ 70000) (w : World) : (Instr.makeSlice 31 (.int .i64 (n : Int)) (.int .i64 (c : Int))).run Try.prog w = .ok (.slice (some ⟨w.heap.size, 0, none⟩) n c) (w.alloc (.cells (mkW c) 45)) := by
  have h := run_make (P := Try.prog) w 31 45 ((Try.prog.info? 45).get!) (.int .u64 0) Try.underlying31 (by kernel_rfl) (by kernel_rfl) .i64 .i64 (n : Int) (c : Int) (by omega) (by omega)
    (by have e : ((Try.prog.info? 45).get!).bytes = 8 := by kernel_rfl
        rw [e]; omega) (by omega)
  simp only [Int.toNat_natCast] at h
  have e : ((Try.prog.info? 45).get!).size = 1 := by kernel_rfl
  rw [e] at h
  exact h
theorem mkW_cell (n o : Nat) (h : o < n) : ∃ v, (mkW n)[o]? = some v := ⟨_, Array.getElem?_eq_getElem (by unfold mkW; rw [size_madeCells]; omega)⟩

/-- It returns a new row of n words. -/
def NewNat (n : Nat) (w : World) (e : Ending) (w' : World) : Prop := ∃ c, n ≤ c ∧ e = .returned (.slice (some ⟨w.heap.size, 0, none⟩) n c) ∧ w' = w.alloc (.cells (mkW c) 45)

set_option maxHeartbeats 1000000 in
theorem natMake_any (n : Nat) (w : World) (h1 : 1 ≤ n) (hn : n ≤ 60000) : Calls Try.prog 21 #[.slice none 0 0, .int .i64 (n : Int)] w (NewNat n w) := by
  by_cases h : n = 1
  · subst h
    have mk : ∀ w : World, (Instr.makeSlice 31 (.int .i64 1) (.int .i64 1)).run Try.prog w = .ok (.slice (some ⟨w.heap.size, 0, none⟩) 1 1) (w.alloc (.cells (mkW 1) 45)) := fun w => run_mkW 1 1 (Nat.le_refl _) (by omega) w
    go_enter Try.func21, Try.ntmps21
    go_wp2
    go_ret
    exact ⟨1, Nat.le_refl _, rfl, rfl⟩
  · have mk : ∀ w : World, (Instr.makeSlice 31 (.int .i64 (n : Int)) (.int .i64 ((n : Int) + 4))).run Try.prog w = .ok (.slice (some ⟨w.heap.size, 0, none⟩) n (n + 4)) (w.alloc (.cells (mkW (n + 4)) 45)) := fun w => run_mkW n (n + 4) (by omega) (by omega) w
    have g1 : ((n : Int) == 1) = false := by simp; omega
    have g2 : ¬ (n : Int) ≤ 0 := by omega
    go_enter Try.func21, Try.ntmps21
    go_wp2
    go_ret
    exact ⟨n + 4, by omega, rfl, rfl⟩

/-- It returns a row of L words out of block Z's; those that are left off are 0. -/
def Normed (Z n c : Nat) (W : Nat → Int) (w : World) (e : Ending) (w' : World) : Prop := ∃ L, L ≤ n ∧ (∀ k, L ≤ k → k < n → W k = 0) ∧ e = .returned (.slice (some ⟨Z, 0, none⟩) L c) ∧ w = w'
theorem Normed.mk {Z n c L : Nat} {W : Nat → Int} {w : World} {v : Value} (hL : L ≤ n) (h : ∀ k, L ≤ k → k < n → W k = 0) (hv : v = .slice (some ⟨Z, 0, none⟩) L c) : Normed Z n c W w (.returned v) w := ⟨L, hL, h, by rw [hv], rfl⟩

set_option maxHeartbeats 1000000 in
theorem norm_any (Z n c : Nat) (W : Nat → Int) (w : World) (hn : n ≤ 60000) (hnc : n ≤ c) (hc : ∀ k, k < n → w.cell? ⟨Z, k, none⟩ = some (.int .u64 (W k))) : Calls Try.prog 23 #[.slice (some ⟨Z, 0, none⟩) n c] w (Normed Z n c W w) := by
  have HC : Hid (∀ k, k < n → w.cell? ⟨Z, k, none⟩ = some (.int .u64 (W k))) := hc
  clear hc
  go_enter Try.func23, Try.ntmps23
  go_wp2
  go_loop [3] (fun i => ∃ L : Nat, L ≤ n ∧ i = .int .i64 L ∧ Hid (∀ k, L ≤ k → k < n → W k = 0)) (fun i => (intOf i).toNat)
  case atStart => exact ⟨n, Nat.le_refl _, rfl, fun k h1 h2 => by omega⟩
  case round =>
    obtain ⟨L, hL, rfl, hz⟩ := hrel
    have gL : L ≤ c := by omega
    by_cases h0 : 0 < L
    · obtain ⟨m, hm⟩ : ∃ m, Hid (m + 1 = L) := ⟨L - 1, by show L - 1 + 1 = L; omega⟩
      have hmL : m < L := by have := hm.out; omega
      have em : (L : Int) - 1 = (m : Int) := by have := hm.out; omega
      have c0 := HC.out m (by omega)
      have g0 : (0 : Int) < (L : Int) := by omega
      have g1 : (m : Int) < (n : Int) := by omega
      by_cases hw : W m = 0
      · have HW : Hid (W m = 0) := hw
        rw [hw] at c0
        clear hw
        go_wp2
        go_round
        case rel => exact ⟨m, by omega, rfl, fun k h1 h2 => by by_cases e : k = m; rw [e]; exact HW.out; exact hz.out k (by have := hm.out; omega) h2⟩
        case measure => simp [intOf]; omega
      · have hw' : (W m == 0) = false := by simpa using hw
        clear hw
        go_wp2
        go_ret
        exact Normed.mk hL hz.out rfl
    · obtain rfl : L = 0 := by omega
      clear h0
      go_wp2
      go_ret
      exact Normed.mk hL hz.out rfl
end Go.Proofs.Qxb6608702a
