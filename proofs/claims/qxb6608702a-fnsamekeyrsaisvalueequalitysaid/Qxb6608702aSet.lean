import Derived.Test.Qxb6608702aNat
namespace Go.Proofs.Qxb6608702a
open Go.RowKit

/-- The words under construction in block Z: the first k are laid. -/
structure WB (w : World) (c k : Nat) (D : Nat → Int) (wr : World) : Prop where
  below : Below w.heap.size w wr
  room : w.heap.size < wr.heap.size
  cell : ∀ o, o < c → ∃ v, wr.cell? ⟨w.heap.size, o, none⟩ = some v
  free : ∀ o, wr.frozen? ⟨w.heap.size, o, none⟩ = false
  laid : ∀ i, i < k → wr.cell? ⟨w.heap.size, i, none⟩ = some (.int .u64 (word D i))
theorem WB.start (w : World) (c : Nat) (D : Nat → Int) : WB w c 0 D (w.alloc (.cells (mkW c) 45)) := by
  refine ⟨Bal (Below.refl _ _) _, by simp, fun o ho => ?_, fun o => World.frozen?_alloc_at (mkW c) 45 w.heap.size o rfl, fun i hi => absurd hi (Nat.not_lt_zero i)⟩
  rw [World.cell?_alloc_at (mkW c) 45 w.heap.size o rfl]
  exact mkW_cell c o ho
theorem WB.drewN {w : World} {c k : Nat} {D : Nat → Int} {wr : World} (h : WB w c k D wr) (n : Nat) : WB w c k D (wr.drewN n) := ⟨Bdrew h.below n, h.room, h.cell, h.free, h.laid⟩
theorem WB.put {w : World} {c k : Nat} {D : Nat → Int} {wr : World} (h : WB w c k D wr) (hk : k < c) : WB w c (k + 1) D (wr.setCell ⟨w.heap.size, k, none⟩ (.int .u64 (word D k))) := by
  have hout : ∀ o, o ≠ k → (wr.setCell ⟨w.heap.size, k, none⟩ (.int .u64 (word D k))).cell? ⟨w.heap.size, o, none⟩ = wr.cell? ⟨w.heap.size, o, none⟩ := fun o hne =>
    World.cell?_setCell_other _ _ _ _ (fun e => by injection e with e1 e2; exact hne e2.symm)
  have hin : (wr.setCell ⟨w.heap.size, k, none⟩ (.int .u64 (word D k))).cell? ⟨w.heap.size, k, none⟩ = some (.int .u64 (word D k)) := by
    obtain ⟨v, hv⟩ := h.cell k hk
    exact World.cell?_setCell_same _ _ _ hv
  refine ⟨h.below.setCell (Nat.le_refl _) _, by simpa using h.room, fun o ho => ?_, fun o => by rw [World.frozen?_setCell]; exact h.free o, fun i hi => ?_⟩
  · by_cases e : o = k
    · subst e; exact ⟨_, hin⟩
    · obtain ⟨v, hv⟩ := h.cell o ho
      exact ⟨v, (hout o e).trans hv⟩
  · rcases Nat.lt_succ_iff_lt_or_eq.1 hi with hlt | rfl
    · exact (hout i (by omega)).trans (h.laid i hlt)
    · exact hin

/-- The number of words. -/
theorem words_of (n : Nat) : (((n : Int) + 8 - 1).tdiv 8) = (((n + 7) / 8 : Nat) : Int) := by
  rw [Int.tdiv_eq_ediv_of_nonneg (by omega)]; omega

set_option maxHeartbeats 1000000 in
theorem beWord_any (b o c : Nat) (A : Nat → Int) (w : World) (hA : Byt 8 A) (hc : ∀ i, i < 8 → w.cell? ⟨b, o + i, none⟩ = some (.int .u8 (A i))) :
    Calls Try.prog 22 #[.slice (some ⟨b, o, none⟩) 8 c] w fun e w' => e = .returned (.int .u64 (A 7 + A 6 * 256 + A 5 * 65536 + A 4 * 16777216 + A 3 * 4294967296 + A 2 * 1099511627776 + A 1 * 281474976710656 + A 0 * 72057594037927936)) ∧ ∃ nq, w' = w.drewN nq := by
  go_enter Try.func22, Try.ntmps22
  go_wp2_with (go_at_call 24; refine (be64_any b o c A _ hA hc).mono ?_; rintro e w' ⟨rfl, nq, rfl⟩)
  go_ret
  exact ⟨rfl, _, rfl⟩

theorem word_here {A : Nat → Int} {n k i : Nat} (h : i + 8 * (k + 1) = n) : A (i + 7) + A (i + 6) * 256 + A (i + 5) * 65536 + A (i + 4) * 16777216 + A (i + 3) * 4294967296 + A (i + 2) * 1099511627776 + A (i + 1) * 281474976710656 + A (i + 0) * 72057594037927936 = word (dig A n) k := by
  unfold word dig
  rw [if_pos (by omega), if_pos (by omega), if_pos (by omega), if_pos (by omega), if_pos (by omega), if_pos (by omega), if_pos (by omega), if_pos (by omega)]
  rw [show n - 1 - k * 8 = i + 7 by omega, show n - 1 - (k * 8 + 1) = i + 6 by omega, show n - 1 - (k * 8 + 2) = i + 5 by omega, show n - 1 - (k * 8 + 3) = i + 4 by omega, show n - 1 - (k * 8 + 4) = i + 3 by omega, show n - 1 - (k * 8 + 5) = i + 2 by omega, show n - 1 - (k * 8 + 6) = i + 1 by omega, show n - 1 - (k * 8 + 7) = i + 0 by omega]

/-- The last, unfilled word: its first j bytes. -/
def pw (A : Nat → Int) (r : Nat) : Nat → Int
  | 0 => 0
  | 1 => A (r - 1)
  | 2 => A (r - 1) + A (r - 2) * 256
  | 3 => A (r - 1) + A (r - 2) * 256 + A (r - 3) * 65536
  | 4 => A (r - 1) + A (r - 2) * 256 + A (r - 3) * 65536 + A (r - 4) * 16777216
  | 5 => A (r - 1) + A (r - 2) * 256 + A (r - 3) * 65536 + A (r - 4) * 16777216 + A (r - 5) * 4294967296
  | 6 => A (r - 1) + A (r - 2) * 256 + A (r - 3) * 65536 + A (r - 4) * 16777216 + A (r - 5) * 4294967296 + A (r - 6) * 1099511627776
  | _ => A (r - 1) + A (r - 2) * 256 + A (r - 3) * 65536 + A (r - 4) * 16777216 + A (r - 5) * 4294967296 + A (r - 6) * 1099511627776 + A (r - 7) * 281474976710656
theorem pw_word {A : Nat → Int} {n K r : Nat} (h : r + 8 * K = n) (h7 : r ≤ 7) : pw A r r = word (dig A n) K := by
  have hi : ∀ j, r ≤ j → dig A n (K * 8 + j) = 0 := fun j hj => by unfold dig; rw [if_neg (by omega)]
  have lo : ∀ j, j < r → dig A n (K * 8 + j) = A (r - (j + 1)) := fun j hj => by unfold dig; rw [if_pos (by omega)]; congr 1; omega
  have z0 : K * 8 = K * 8 + 0 := rfl
  unfold word
  rw [z0]
  match r, h7 with
  | 0, _ => rw [hi 0 (by omega), hi 1 (by omega), hi 2 (by omega), hi 3 (by omega), hi 4 (by omega), hi 5 (by omega), hi 6 (by omega), hi 7 (by omega)]; simp [pw]
  | 1, _ => rw [lo 0 (by omega), hi 1 (by omega), hi 2 (by omega), hi 3 (by omega), hi 4 (by omega), hi 5 (by omega), hi 6 (by omega), hi 7 (by omega)]; simp [pw]
  | 2, _ => rw [lo 0 (by omega), lo 1 (by omega), hi 2 (by omega), hi 3 (by omega), hi 4 (by omega), hi 5 (by omega), hi 6 (by omega), hi 7 (by omega)]; simp [pw]
  | 3, _ => rw [lo 0 (by omega), lo 1 (by omega), lo 2 (by omega), hi 3 (by omega), hi 4 (by omega), hi 5 (by omega), hi 6 (by omega), hi 7 (by omega)]; simp [pw]
  | 4, _ => rw [lo 0 (by omega), lo 1 (by omega), lo 2 (by omega), lo 3 (by omega), hi 4 (by omega), hi 5 (by omega), hi 6 (by omega), hi 7 (by omega)]; simp [pw]
  | 5, _ => rw [lo 0 (by omega), lo 1 (by omega), lo 2 (by omega), lo 3 (by omega), lo 4 (by omega), hi 5 (by omega), hi 6 (by omega), hi 7 (by omega)]; simp [pw]
  | 6, _ => rw [lo 0 (by omega), lo 1 (by omega), lo 2 (by omega), lo 3 (by omega), lo 4 (by omega), lo 5 (by omega), hi 6 (by omega), hi 7 (by omega)]; simp [pw]
  | 7, _ => rw [lo 0 (by omega), lo 1 (by omega), lo 2 (by omega), lo 3 (by omega), lo 4 (by omega), lo 5 (by omega), lo 6 (by omega), hi 7 (by omega)]; simp [pw]
end Go.Proofs.Qxb6608702a
