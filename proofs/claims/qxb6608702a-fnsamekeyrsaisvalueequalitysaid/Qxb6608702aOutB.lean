import Derived.Test.Qxb6608702aOut
namespace Go.Proofs.Qxb6608702a
open Go.RowKit

theorem run_mk1b (n : Nat) (hn : n ≤ 480000) (w : World) : (Instr.makeSlice 22 (.int .i64 (n : Int)) (.int .i64 (n : Int))).run Try.prog w = .ok (.slice (some ⟨w.heap.size, 0, none⟩) n n) (w.alloc (.cells (mk1 n) 5)) := by
  have h := run_make (P := Try.prog) w 22 5 ((Try.prog.info? 5).get!) (.int .u8 0) Try.underlying22 (by kernel_rfl) (by kernel_rfl) .i64 .i64 (n : Int) (n : Int) (by omega) (by omega)
    (by have e : ((Try.prog.info? 5).get!).bytes = 1 := by kernel_rfl
        rw [e]; omega) (by omega)
  simp only [Int.toNat_natCast] at h
  have e : ((Try.prog.info? 5).get!).size = 1 := by kernel_rfl
  rw [e] at h
  exact h
theorem OB.start (w : World) (N : Nat) (D : Nat → Int) : OB (w.alloc (.cells (mk1 N) 5)) w.heap.size N 0 D (w.alloc (.cells (mk1 N) 5)) := by
  refine ⟨Below.refl _ _, by simp, fun o ho => ?_, fun o => World.frozen?_alloc_at (mk1 N) 5 w.heap.size o rfl, fun t ht => absurd ht (Nat.not_lt_zero t)⟩
  rw [World.cell?_alloc_at (mk1 N) 5 w.heap.size o rfl]
  exact mk1_cell N o ho

set_option maxHeartbeats 1000000 in
theorem bytes50_zero (za : Option Addr) (c : Nat) (v : Option Addr) (w : World) : Calls Try.prog 50 #[.slice za 0 c, .slice v 0 0] w fun e w' => e = .returned (.int .i64 0) ∧ w' = w := by
  go_enter Try.func50, Try.ntmps50
  go_wp2
  refine wp_loop_rounds 1 ?_
  rw [rounds_succ]
  go_wp2
  refine wp_loop_rounds 1 ?_
  rw [rounds_succ]
  go_wp2
  go_ret
  exact ⟨rfl, rfl⟩

/-- It returns the digits that count, the greatest first, in a row. -/
def GivesBytes (D : Nat → Int) (w : World) (e : Ending) (w' : World) : Prop := ∃ v S, e = .returned v ∧ Row w' v S (rev D S) ∧ Sig D S ∧ Below w.heap.size w w'

set_option maxHeartbeats 1000000 in
theorem bytes49 (P : Nat) (D : Nat → Int) (w : World) (hD : DByt D) (hI : IntAt w P D) : Calls Try.prog 49 #[.pointer (some ⟨P, 0, none⟩)] w (GivesBytes D w) := by
  obtain ⟨hP, za, L, c, hf, hL, hz, hDz⟩ := hI
  by_cases h0 : L = 0
  · subst h0
    clear hz
    have mk : ∀ w : World, (Instr.makeSlice 22 (.int .i64 0) (.int .i64 0)).run Try.prog w = .ok (.slice (some ⟨w.heap.size, 0, none⟩) 0 0) (w.alloc (.cells (mk1 0) 5)) := fun w => run_mk1b 0 (by omega) w
    go_enter Try.func49, Try.ntmps49
    go_wp2_with (go_at_call 50; refine (bytes50_zero _ _ _ _).mono ?_; rintro e w' ⟨rfl, rfl⟩)
    go_ret
    exact ⟨_, 0, rfl, Or.inl ⟨_, _, rfl, rfl⟩, ⟨fun t _ => hDz t (by omega), Or.inl rfl⟩, Bal (Below.refl _ _) _⟩
  · obtain ⟨Z, rfl, hZ, hc⟩ := hz (by omega)
    obtain ⟨N, hN⟩ : ∃ N, Hid (L * 8 = N) := ⟨_, rfl⟩
    have eN : (L : Int) * 8 = (N : Int) := by have := hN.out; omega
    have hN4 : N ≤ 480000 := by have := hN.out; omega
    have hN0 : 0 < N := by have := hN.out; omega
    have mk := run_mk1b N hN4
    have hB0 : Below w.heap.size w (w.alloc (.cells (mk1 N) 5)) := Bal (Below.refl _ _) _
    go_enter Try.func49, Try.ntmps49
    go_wp2_with fail
    refine (bytes50 Z w.heap.size L N c D (w.alloc (.cells (mk1 N) 5)) hD hN4 hN hZ (fun k hk => (hB0.cell (p := ⟨Z, k, none⟩) hZ).trans (hc k hk)) (OB.start w N D)).mono ?_
    rintro e w1 ⟨S, q, hqS, rfl, hz1, hz2, hO⟩
    have HQ : Hid (q + S = N) := hqS
    have hq1 : q ≤ N := by omega
    clear hqS
    have hsig : Hid (Sig D S) := ⟨fun t ht => by by_cases h : t < N; exact hz1 t ht h; exact hDz t (by have := hN.out; omega), hz2⟩
    have hB1 : Below w.heap.size w w1 := hB0.trans hO.below
    clear hz1 hz2 hDz
    by_cases hqN : q = N
    · have hS0 : S = 0 := by have := HQ.out; omega
      subst hS0
      subst hqN
      go_wp2
      go_ret
      exact ⟨_, 0, rfl, Or.inl ⟨_, _, rfl, rfl⟩, hsig, hB1⟩
    · have hqN' : q < N := by omega
      clear hqN
      go_wp2
      go_ret
      refine ⟨_, S, rfl, Or.inr ⟨w.heap.size, q, N - q, ?_, hO.room, fun p hp => ?_⟩, hsig, hB1⟩
      · have : N - q = S := by have := HQ.out; omega
        simp [this]
      · exact hO.laid (S - 1 - p) (by have := HQ.out; omega) (q + p) (by have := HQ.out; omega)
end Go.Proofs.Qxb6608702a
