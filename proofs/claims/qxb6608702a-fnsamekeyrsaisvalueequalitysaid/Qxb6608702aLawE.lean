import Derived.Test.Qxb6608702aCopy
namespace Go.Proofs.Qxb6608702a
open Go.RowKit

set_option maxHeartbeats 1000000 in
theorem bytesE_yes (x y : Option Addr) (m c n d : Nat) (w : World) (hm : m ≤ 65536) (hn : n ≤ 65536) :
    Calls Try.prog 5 #[.slice x m c, .slice y n d] w fun e w' => e = .returned (.bool true) ∧ w = w' := by
  go_enter Try.func5, Try.ntmps5
  go_wp2
  go_ret
  exact ⟨rfl, rfl⟩

/-- Too long: the law returns true at once. -/
theorem lawE_long (x y : Option Addr) (m c n d : Nat) (w : World) (hm : m ≤ maxLen) (hn : n ≤ maxLen) (h : 65536 < m ∨ 65536 < n) :
    Calls Try.prog 3 #[.slice x m c, .slice y n d] w fun e w' => e = .returned (.bool true) ∧ Below w.heap.size w w' := by
  unfold maxLen at hm hn
  by_cases h1 : 1048576 < m
  · go_enter Try.func3, Try.ntmps3
    go_wp2
    go_ret
    exact ⟨rfl, Below.refl _ _⟩
  by_cases h2 : 1048576 < n
  · go_enter Try.func3, Try.ntmps3
    go_wp2
    go_ret
    exact ⟨rfl, Below.refl _ _⟩
  by_cases h3 : 1048576 < m + n
  · go_enter Try.func3, Try.ntmps3
    go_wp2
    go_ret
    exact ⟨rfl, Below.refl _ _⟩
  by_cases h4 : 65536 < m
  · go_enter Try.func3, Try.ntmps3
    go_wp2
    go_ret
    exact ⟨rfl, Below.refl _ _⟩
  · have h5 : 65536 < n := by omega
    go_enter Try.func3, Try.ntmps3
    go_wp2
    go_ret
    exact ⟨rfl, Below.refl _ _⟩

/-- What came in: nil, or a row from x on. -/
def Came (w : World) (a : Option Addr) (n c : Nat) (A : Nat → Int) : Prop :=
  (a = none ∧ n = 0 ∧ c = 0) ∨ ∃ x, a = some x ∧ (∀ i, i < n → w.cell? (x.add i) = some (.int .u8 (A i))) ∧ (0 < n → x.block < w.heap.size)
theorem Came.below {w w' : World} {a : Option Addr} {n c : Nat} {A : Nat → Int} (h : Came w a n c A) (hB : Below w.heap.size w w') : Came w' a n c A := by
  rcases h with h | ⟨x, h1, h2, h3⟩
  · exact Or.inl h
  · exact Or.inr ⟨x, h1, fun i hi => (hB.cell (p := x.add i) (by have := h3 (by omega); unfold Addr.add; split <;> exact this)).trans (h2 i hi), fun h => Nat.lt_of_lt_of_le (h3 h) hB.size⟩

theorem neq_nil (a : Option Addr) (n c : Nat) (w : World) : (binOp .neq 22 (.slice a n c) (.slice none 0 0)).run Try.prog w = .ok (.bool (!a.isNone)) w := run_neq_slice_nil_any (P := Try.prog) w 22 5 a n c 0 0 Try.underlying22

set_option maxHeartbeats 2000000 in
theorem lawE (x y : Option Addr) (m c n d : Nat) (A B : Nat → Int) (w : World) (hm : m ≤ 65536) (hn : n ≤ 65536) (ha : Came w x m c A) (hb : Came w y n d B) (hA : Byt m A) (hB : Byt n B) :
    Calls Try.prog 3 #[.slice x m c, .slice y n d] w fun e w' => e = .returned (.bool true) ∧ Below w.heap.size w w' := by
  have hnil := neq_nil
  have mk := run_mk1 m hm
  have mk' := run_mk1 n hn
  rcases ha with ⟨rfl, rfl, rfl⟩ | ⟨p, rfl, hp, hpb⟩
  · rcases hb with ⟨rfl, rfl, rfl⟩ | ⟨q, rfl, hq, hqb⟩
    · have HRa : Hid (Row w (.slice none 0 0) 0 A) := Or.inl ⟨none, 0, rfl, rfl⟩
      have HRb : Hid (Row w (.slice none 0 0) 0 B) := Or.inl ⟨none, 0, rfl, rfl⟩
      clear mk mk'
      go_enter Try.func3, Try.ntmps3
      go_wp2_with (first
        | (go_at_call 5; refine (bytesE_yes _ _ _ _ _ _ _ hm hn).mono ?_; rintro e w' ⟨rfl, hw⟩; subst hw)
        | (go_at_call 6; refine (zzEd_any _ _ _ _ A B w hm hn HRa.out HRb.out hA hB).mono ?_; rintro e w' ⟨rfl, nq, rfl⟩)
        | (go_at_call 7; refine (sameBytes_any _ _ _ _ A B _ hm hn (HRa.out.drewN nq) (HRb.out.drewN nq)).mono ?_; rintro e w' ⟨rfl, nq2, rfl⟩))
      go_ret
      exact ⟨rfl, Bdrew (Below.refl _ _) _⟩
    · obtain ⟨wb, rb, Bb, Rb⟩ := copy_run q n d B w hq hqb
      have HRa : Hid (Row wb (.slice none 0 0) 0 A) := Or.inl ⟨none, 0, rfl, rfl⟩
      have HRb : Hid (Row wb (.slice (some ⟨w.heap.size, 0, none⟩) n n) n B) := Rb
      clear Rb hq hqb mk
      go_enter Try.func3, Try.ntmps3
      go_wp2_with (first
        | (go_at_call 5; refine (bytesE_yes _ _ _ _ _ _ _ hm hn).mono ?_; rintro e w' ⟨rfl, hw⟩; subst hw)
        | (go_at_call 6; refine (zzEd_any _ _ _ _ A B wb hm hn HRa.out HRb.out hA hB).mono ?_; rintro e w' ⟨rfl, nq, rfl⟩)
        | (go_at_call 7; refine (sameBytes_any _ _ _ _ A B _ hm hn (HRa.out.drewN nq) (HRb.out.drewN nq)).mono ?_; rintro e w' ⟨rfl, nq2, rfl⟩))
      go_ret
      exact ⟨rfl, Bdrew Bb _⟩
  · obtain ⟨wa, ra, Ba, Ra⟩ := copy_run p m c A w hp hpb
    rcases hb with ⟨rfl, rfl, rfl⟩ | ⟨q, rfl, hq, hqb⟩
    · have HRa : Hid (Row wa (.slice (some ⟨w.heap.size, 0, none⟩) m m) m A) := Ra
      have HRb : Hid (Row wa (.slice none 0 0) 0 B) := Or.inl ⟨none, 0, rfl, rfl⟩
      clear Ra hp hpb mk'
      go_enter Try.func3, Try.ntmps3
      go_wp2_with (first
        | (go_at_call 5; refine (bytesE_yes _ _ _ _ _ _ _ hm hn).mono ?_; rintro e w' ⟨rfl, hw⟩; subst hw)
        | (go_at_call 6; refine (zzEd_any _ _ _ _ A B wa hm hn HRa.out HRb.out hA hB).mono ?_; rintro e w' ⟨rfl, nq, rfl⟩)
        | (go_at_call 7; refine (sameBytes_any _ _ _ _ A B _ hm hn (HRa.out.drewN nq) (HRb.out.drewN nq)).mono ?_; rintro e w' ⟨rfl, nq2, rfl⟩))
      go_ret
      exact ⟨rfl, Bdrew Ba _⟩
    · have hq2 : ∀ i, i < n → wa.cell? (q.add i) = some (.int .u8 (B i)) := fun i hi => (Ba.cell (p := q.add i) (by have := hqb (by omega); unfold Addr.add; split <;> exact this)).trans (hq i hi)
      obtain ⟨wb, rb, Bb, Rb⟩ := copy_run q n d B wa hq2 (fun h => Nat.lt_of_lt_of_le (hqb h) Ba.size)
      have Ra2 := Ra.below Bb (Nat.le_refl _)
      have HRa : Hid (Row wb (.slice (some ⟨w.heap.size, 0, none⟩) m m) m A) := Ra2
      have HRb : Hid (Row wb (.slice (some ⟨wa.heap.size, 0, none⟩) n n) n B) := Rb
      clear Ra Ra2 Rb hp hpb hq hqb hq2
      go_enter Try.func3, Try.ntmps3
      go_wp2_with (first
        | (go_at_call 5; refine (bytesE_yes _ _ _ _ _ _ _ hm hn).mono ?_; rintro e w' ⟨rfl, hw⟩; subst hw)
        | (go_at_call 6; refine (zzEd_any _ _ _ _ A B wb hm hn HRa.out HRb.out hA hB).mono ?_; rintro e w' ⟨rfl, nq, rfl⟩)
        | (go_at_call 7; refine (sameBytes_any _ _ _ _ A B _ hm hn (HRa.out.drewN nq) (HRb.out.drewN nq)).mono ?_; rintro e w' ⟨rfl, nq2, rfl⟩))
      go_ret
      exact ⟨rfl, Bdrew (Bnx Ba Bb) _⟩
end Go.Proofs.Qxb6608702a
