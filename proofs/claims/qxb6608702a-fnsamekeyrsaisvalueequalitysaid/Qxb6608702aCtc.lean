import Derived.Test.Qxb6608702aBytes
namespace Go.Proofs.Qxb6608702a
open Go.RowKit

def b2i (b : Bool) : Int := if b then 1 else 0
theorem b2i_eq (b : Bool) : (b2i b == 1) = b := by cases b <;> rfl

theorem b2u_t (w : World) : (callFunc 45 #[.bool true]).run Try.prog w = .ok (.value (.int .u8 1)) w := by kernel_rfl
theorem b2u_f (w : World) : (callFunc 45 #[.bool false]).run Try.prog w = .ok (.value (.int .u8 0)) w := by kernel_rfl

set_option maxHeartbeats 1000000 in
theorem byteEq_any (x : Int) (w : World) :
    Calls Try.prog 44 #[.int .u8 x, .int .u8 0] w fun e w' => e = .returned (.int .i64 (b2i (x == 0))) ∧ w' = w := by
  have k1 := b2u_t
  have k2 := b2u_f
  cases hx : (x == 0)
  · go_enter Try.func44, Try.ntmps44
    go_wp2
    go_ret
    exact ⟨rfl, rfl⟩
  · go_enter Try.func44, Try.ntmps44
    go_wp2
    go_ret
    exact ⟨rfl, rfl⟩

/-- The row's shape. -/
theorem Row.slice {w : World} {v : Value} {n : Nat} {A : Nat → Int} (h : Row w v n A) : ∃ x c, v = .slice x n c := by
  rcases h with ⟨x, c, h, h'⟩ | ⟨b, o, c, h, _⟩
  · exact ⟨x, c, by rw [h, h']⟩
  · exact ⟨_, _, h⟩
theorem Row.some {w : World} {v : Value} {n : Nat} {A : Nat → Int} (h : Row w v n A) (h0 : n ≠ 0) : ∃ b o c, v = .slice (some ⟨b, o, none⟩) n c ∧ b < w.heap.size ∧ ∀ i, i < n → w.cell? ⟨b, o + i, none⟩ = some (.int .u8 (A i)) := by
  rcases h with ⟨_, _, _, h⟩ | h
  · exact absurd h h0
  · exact h

set_option maxHeartbeats 1000000 in
theorem ctc_any (va vb : Value) (m n : Nat) (A B : Nat → Int) (w : World) (hm : m ≤ 65536) (hn : n ≤ 65536) (ha : Row w va m A) (hb : Row w vb n B) (hA : Byt m A) (hB : Byt n B) :
    Calls Try.prog 43 #[va, vb] w fun e w' => e = .returned (.int .i64 (b2i (sameB m A n B))) ∧ ∃ nq, w' = w.drewN nq := by
  by_cases hl : m = n
  · subst hl
    by_cases h0 : m = 0
    · subst h0
      rw [sameB_zero]
      obtain ⟨x, c, rfl⟩ := ha.slice
      obtain ⟨y, d, rfl⟩ := hb.slice
      clear ha hb hA hB
      go_enter Try.func43, Try.ntmps43
      go_wp2
      refine wp_loop_rounds 1 ?_
      rw [rounds_succ]
      go_wp2_with (go_at_call 44; refine (byteEq_any _ _).mono ?_; rintro e w' ⟨rfl, rfl⟩)
      go_ret
      exact ⟨rfl, 0, rfl⟩
    · obtain ⟨b1, o1, c1, rfl, l1, C1⟩ := ha.some h0
      obtain ⟨b2, o2, c2, rfl, l2, C2⟩ := hb.some h0
      clear ha hb
      have H1 : Hid (∀ i, i < m → w.cell? ⟨b1, o1 + i, none⟩ = some (.int .u8 (A i))) := C1
      have H2 : Hid (∀ i, i < m → w.cell? ⟨b2, o2 + i, none⟩ = some (.int .u8 (B i))) := C2
      clear C1 C2 h0
      go_enter Try.func43, Try.ntmps43
      go_wp2
      go_loopw [5, 6] (fun v i wr => ∃ k nq : Nat, ∃ x : Int, k ≤ m ∧ i = .int .i64 k ∧ v = .int .u8 x ∧ 0 ≤ x ∧ x < 256 ∧ Hid (x = 0 ↔ ∀ i, i < k → A i = B i) ∧ wr = w.drewN nq) (fun _ i _ => m - (intOf i).toNat)
      case atStart => exact ⟨0, 0, 0, Nat.zero_le _, rfl, rfl, by omega, by omega, ⟨fun _ i hi => absurd hi (Nat.not_lt_zero i), fun _ => rfl⟩, rfl⟩
      case round =>
        obtain ⟨k, nq, x, hk, rfl, rfl, x0, x1, hX, rfl⟩ := hrel
        by_cases hlt : k < m
        · have q1 := H1.out k hlt
          have q2 := H2.out k hlt
          have g0 : (0 : Int) ≤ (k : Int) := by omega
          have g1 : (k : Int) < (m : Int) := by omega
          obtain ⟨a0, a1⟩ := hA k hlt
          obtain ⟨e0, e1⟩ := hB k hlt
          obtain ⟨y0, y1⟩ := xor_lt a0 a1 e0 e1
          obtain ⟨z0, z1⟩ := or_lt x0 x1 y0 y1
          have HX : Hid (bits BinOp.or IntKind.u8 x (bits BinOp.xor IntKind.u8 (A k) (B k)) = 0 ↔ ∀ i, i < k + 1 → A i = B i) := by
            show bits BinOp.or IntKind.u8 x (bits BinOp.xor IntKind.u8 (A k) (B k)) = 0 ↔ ∀ i, i < k + 1 → A i = B i
            rw [or_zero x0 x1 y0 y1, xor_zero a0 a1 e0 e1, hX.out]
            constructor
            · rintro ⟨h1, h2⟩ i hi
              rcases Nat.lt_succ_iff_lt_or_eq.1 hi with h | h
              · exact h1 i h
              · subst h; exact h2
            · intro h
              exact ⟨fun i hi => h i (by omega), h k (by omega)⟩
          have HZ0 : Hid (0 ≤ bits BinOp.or IntKind.u8 x (bits BinOp.xor IntKind.u8 (A k) (B k))) := z0
          have HZ1 : Hid (bits BinOp.or IntKind.u8 x (bits BinOp.xor IntKind.u8 (A k) (B k)) < 256) := z1
          clear z0 z1 y0 y1 a0 a1 e0 e1
          go_wp2
          go_quiet (fail)
          go_wp2
          go_roundw
          case rel => exact ⟨k + 1, _, _, by omega, by go_num, rfl, HZ0.out, HZ1.out, HX.out, rfl⟩
          case measure => simp [intOf]; omega
        · obtain rfl : k = m := by omega
          have HE : Hid ((x == 0) = sameB k A k B) := by
            show (x == 0) = sameB k A k B
            by_cases hx : x = 0
            · rw [sameB_all (hX.out.1 hx), hx]; rfl
            · have : sameB k A k B = false := by
                cases hs : sameB k A k B with
                | false => rfl
                | true =>
                  simp [sameB] at hs
                  exact absurd (hX.out.2 hs) hx
              rw [this]; simpa using hx
          clear hlt
          go_wp2_with (go_at_call 44; refine (byteEq_any _ _).mono ?_; rintro e w' ⟨rfl, rfl⟩)
          go_ret
          exact ⟨by rw [← HE.out]; rfl, _, rfl⟩
  · rw [sameB_len hl]
    obtain ⟨x, c, rfl⟩ := ha.slice
    obtain ⟨y, d, rfl⟩ := hb.slice
    have hl' : ((m : Int) == (n : Int)) = false := by simp; omega
    clear ha hb
    go_enter Try.func43, Try.ntmps43
    go_wp2
    go_ret
    exact ⟨rfl, 0, rfl⟩

theorem ta28 (v : Value) (w : World) : (Instr.typeAssert (.iface 27 v) 37 28 true).run Try.prog w = .ok (.tuple #[.pointer none, .bool false]) w := by kernel_rfl
theorem ta38 (v : Value) (w : World) : (Instr.typeAssert (.iface 27 v) 37 38 true).run Try.prog w = .ok (.tuple #[.pointer none, .bool false]) w := by kernel_rfl
theorem ta39 (v : Value) (w : World) : (Instr.typeAssert (.iface 27 v) 37 39 true).run Try.prog w = .ok (.tuple #[.iface 27 v, .bool true]) w := by kernel_rfl
theorem ta27 (v : Value) (w : World) : (Instr.typeAssert (.iface 27 v) 37 27 true).run Try.prog w = .ok (.tuple #[v, .bool true]) w := by kernel_rfl

set_option maxHeartbeats 1000000 in
theorem ctc42_any (va vb : Value) (m n : Nat) (A B : Nat → Int) (w : World) (hm : m ≤ 65536) (hn : n ≤ 65536) (ha : Row w va m A) (hb : Row w vb n B) (hA : Byt m A) (hB : Byt n B) :
    Calls Try.prog 42 #[va, vb] w fun e w' => e = .returned (.int .i64 (b2i (sameB m A n B))) ∧ ∃ nq, w' = w.drewN nq := by
  go_enter Try.func42, Try.ntmps42
  go_wp2_with (go_at_call 43; refine (ctc_any va vb m n A B _ hm hn ha hb hA hB).mono ?_; rintro e w' ⟨rfl, nq, rfl⟩)
  go_ret
  exact ⟨rfl, _, rfl⟩
set_option maxHeartbeats 1000000 in
theorem edEqual_any (va vb : Value) (m n : Nat) (A B : Nat → Int) (w : World) (hm : m ≤ 65536) (hn : n ≤ 65536) (ha : Row w va m A) (hb : Row w vb n B) (hA : Byt m A) (hB : Byt n B) :
    Calls Try.prog 41 #[va, .iface 27 vb] w fun e w' => e = .returned (.bool (sameB m A n B)) ∧ ∃ nq, w' = w.drewN nq := by
  have k4 := ta27
  have k5 := b2i_eq (sameB m A n B)
  go_enter Try.func41, Try.ntmps41
  go_wp2_with (go_at_call 42; refine (ctc42_any va vb m n A B _ hm hn ha hb hA hB).mono ?_; rintro e w' ⟨rfl, nq, rfl⟩)
  go_ret
  exact ⟨rfl, _, rfl⟩
set_option maxHeartbeats 1000000 in
theorem sameKeyEd_any (va vb : Value) (m n : Nat) (A B : Nat → Int) (w : World) (hm : m ≤ 65536) (hn : n ≤ 65536) (ha : Row w va m A) (hb : Row w vb n B) (hA : Byt m A) (hB : Byt n B) :
    Calls Try.prog 12 #[.iface 27 va, .iface 27 vb] w fun e w' => e = .returned (.bool (sameB m A n B)) ∧ ∃ nq, w' = w.drewN nq := by
  have k1 := ta28
  have k2 := ta38
  have k3 := ta39
  go_enter Try.func12, Try.ntmps12
  go_wp2_with (go_at_call 41; refine (edEqual_any va vb m n A B _ hm hn ha hb hA hB).mono ?_; rintro e w' ⟨rfl, nq, rfl⟩)
  go_ret
  exact ⟨rfl, _, rfl⟩
set_option maxHeartbeats 1000000 in
theorem zzEd_any (va vb : Value) (m n : Nat) (A B : Nat → Int) (w : World) (hm : m ≤ 65536) (hn : n ≤ 65536) (ha : Row w va m A) (hb : Row w vb n B) (hA : Byt m A) (hB : Byt n B) :
    Calls Try.prog 6 #[va, vb] w fun e w' => e = .returned (.bool (sameB m A n B)) ∧ ∃ nq, w' = w.drewN nq := by
  go_enter Try.func6, Try.ntmps6
  go_wp2_with (go_at_call 12; refine (sameKeyEd_any va vb m n A B _ hm hn ha hb hA hB).mono ?_; rintro e w' ⟨rfl, nq, rfl⟩)
  go_ret
  exact ⟨rfl, _, rfl⟩
end Go.Proofs.Qxb6608702a
