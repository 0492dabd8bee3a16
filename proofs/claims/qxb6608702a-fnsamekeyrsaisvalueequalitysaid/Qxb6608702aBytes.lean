import Derived.Test.Qxb6608702aRows
import Derived.WalkKit
import Derived.WalkSpells
import Derived.WalkLawsBesides
import Derived.LoopTactic
import Derived.LoopN
import Derived.Below
import Derived.Handy
import Derived.WalkSmall
import Derived.BigQuiet
import Derived.Deep.QuietTactic
import Derived.Laws.BitsAllLaws
namespace Go.Proofs.Qxb6608702a
open Go.RowKit

/-- A row of bytes: no cells, or from the head of block B. -/
def Row (w : World) (v : Value) (n : Nat) (A : Nat → Int) : Prop :=
  (∃ x c, v = .slice x 0 c ∧ n = 0) ∨ ∃ b o c, v = .slice (some ⟨b, o, none⟩) n c ∧ b < w.heap.size ∧ ∀ i, i < n → w.cell? ⟨b, o + i, none⟩ = some (.int .u8 (A i))
/-- The numbers are bytes. -/
def Byt (n : Nat) (A : Nat → Int) : Prop := ∀ i, i < n → 0 ≤ A i ∧ A i < 256

/-- The two rows hold the same bytes. -/
def sameB (m : Nat) (A : Nat → Int) (n : Nat) (B : Nat → Int) : Bool := decide (m = n ∧ ∀ i, i < m → A i = B i)
theorem sameB_len {m n : Nat} {A B : Nat → Int} (h : m ≠ n) : sameB m A n B = false := by simp [sameB, h]
theorem sameB_zero (A B : Nat → Int) : sameB 0 A 0 B = true := by simp [sameB]
theorem sameB_all {n : Nat} {A B : Nat → Int} (h : ∀ i, i < n → A i = B i) : sameB n A n B = true := by simp [sameB]; exact h
theorem sameB_not {n k : Nat} {A B : Nat → Int} (hk : k < n) (h : A k ≠ B k) : sameB n A n B = false := by
  simp [sameB]; exact ⟨k, hk, h⟩

theorem ret_bool {a b : Bool} (h : a = b) : Ending.returned (.bool a) = .returned (.bool b) := by rw [h]
theorem xor_zero {a b : Int} (a0 : 0 ≤ a) (a1 : a < 256) (b0 : 0 ≤ b) (b1 : b < 256) : bits BinOp.xor IntKind.u8 a b = 0 ↔ a = b := by
  rw [u8_xor a b a0 a1 b0 b1]
  constructor
  · intro h
    have h' : a.toNat ^^^ b.toNat = 0 := by omega
    have : a.toNat = b.toNat := by
      have e : a.toNat ^^^ (a.toNat ^^^ b.toNat) = b.toNat := by rw [← Nat.xor_assoc, Nat.xor_self, Nat.zero_xor]
      rw [h', Nat.xor_zero] at e; exact e
    omega
  · rintro rfl; simp
theorem xor_lt {a b : Int} (a0 : 0 ≤ a) (a1 : a < 256) (b0 : 0 ≤ b) (b1 : b < 256) : 0 ≤ bits BinOp.xor IntKind.u8 a b ∧ bits BinOp.xor IntKind.u8 a b < 256 := by
  rw [u8_xor a b a0 a1 b0 b1]
  have : a.toNat ^^^ b.toNat < 2 ^ 8 := Nat.xor_lt_two_pow (by omega) (by omega)
  omega
theorem or_zero {a b : Int} (a0 : 0 ≤ a) (a1 : a < 256) (b0 : 0 ≤ b) (b1 : b < 256) : bits BinOp.or IntKind.u8 a b = 0 ↔ a = 0 ∧ b = 0 := by
  rw [u8_or a b a0 a1 b0 b1]
  constructor
  · intro h
    have h' : a.toNat ||| b.toNat = 0 := by omega
    have h1 : a.toNat ≤ a.toNat ||| b.toNat := Nat.left_le_or
    have h2 : b.toNat ≤ a.toNat ||| b.toNat := Nat.right_le_or
    omega
  · rintro ⟨rfl, rfl⟩; simp
theorem or_lt {a b : Int} (a0 : 0 ≤ a) (a1 : a < 256) (b0 : 0 ≤ b) (b1 : b < 256) : 0 ≤ bits BinOp.or IntKind.u8 a b ∧ bits BinOp.or IntKind.u8 a b < 256 := by
  rw [u8_or a b a0 a1 b0 b1]
  have : a.toNat ||| b.toNat < 2 ^ 8 := Nat.or_lt_two_pow (by omega) (by omega)
  omega

set_option maxHeartbeats 1000000 in
theorem sameBytes_any (va vb : Value) (m n : Nat) (A B : Nat → Int) (w : World) (hm : m ≤ 65536) (hn : n ≤ 65536) (ha : Row w va m A) (hb : Row w vb n B) :
    Calls Try.prog 7 #[va, vb] w fun e w' => e = .returned (.bool (sameB m A n B)) ∧ ∃ nq, w' = w.drewN nq := by
  have sa : ∃ x c, va = .slice x m c := by rcases ha with ⟨x, c, h, h'⟩ | ⟨b, o, c, h, _⟩; exact ⟨x, c, by rw [h, h']⟩; exact ⟨_, _, h⟩
  have sb : ∃ x c, vb = .slice x n c := by rcases hb with ⟨x, c, h, h'⟩ | ⟨b, o, c, h, _⟩; exact ⟨x, c, by rw [h, h']⟩; exact ⟨_, _, h⟩
  by_cases hl : m = n
  · subst hl
    by_cases h0 : m = 0
    · subst h0
      rw [sameB_zero]
      obtain ⟨x, c, rfl⟩ := sa
      obtain ⟨y, d, rfl⟩ := sb
      clear ha hb
      go_enter Try.func7, Try.ntmps7
      go_wp2
      refine wp_loop_rounds 1 ?_
      rw [rounds_succ]
      go_wp2
      go_ret
      exact ⟨rfl, 0, rfl⟩
    · obtain ⟨b1, o1, c1, rfl, l1, C1⟩ : ∃ b o c, va = .slice (some ⟨b, o, none⟩) m c ∧ b < w.heap.size ∧ ∀ i, i < m → w.cell? ⟨b, o + i, none⟩ = some (.int .u8 (A i)) := by
        rcases ha with ⟨_, _, _, h⟩ | h
        · exact absurd h h0
        · exact h
      obtain ⟨b2, o2, c2, rfl, l2, C2⟩ : ∃ b o c, vb = .slice (some ⟨b, o, none⟩) m c ∧ b < w.heap.size ∧ ∀ i, i < m → w.cell? ⟨b, o + i, none⟩ = some (.int .u8 (B i)) := by
        rcases hb with ⟨_, _, _, h⟩ | h
        · exact absurd h h0
        · exact h
      clear ha hb sa sb
      have H1 : Hid (∀ i, i < m → w.cell? ⟨b1, o1 + i, none⟩ = some (.int .u8 (A i))) := C1
      have H2 : Hid (∀ i, i < m → w.cell? ⟨b2, o2 + i, none⟩ = some (.int .u8 (B i))) := C2
      clear C1 C2 h0
      go_enter Try.func7, Try.ntmps7
      go_wp2
      go_loopw [5] (fun i wr => ∃ k nq : Nat, k ≤ m ∧ i = .int .i64 k ∧ Hid (∀ i, i < k → A i = B i) ∧ wr = w.drewN nq) (fun i _ => m - (intOf i).toNat)
      case atStart => exact ⟨0, 0, Nat.zero_le _, rfl, fun i hi => absurd hi (Nat.not_lt_zero i), rfl⟩
      case round =>
        obtain ⟨k, nq, hk, rfl, hA, rfl⟩ := hrel
        by_cases hlt : k < m
        · have q1 := H1.out k hlt
          have q2 := H2.out k hlt
          have g0 : (0 : Int) ≤ (k : Int) := by omega
          have g1 : (k : Int) < (m : Int) := by omega
          by_cases he : A k = B k
          · have HE : Hid (A k = B k) := he
            rw [← he] at q2
            clear he
            go_wp2
            go_quiet (fail)
            go_wp2
            go_roundw
            case rel => exact ⟨k + 1, _, by omega, by go_num, fun i hi => by rcases Nat.lt_succ_iff_lt_or_eq.1 hi with h | h; exact hA.out i h; subst h; exact HE.out, rfl⟩
            case measure => simp [intOf]; omega
          · have hb' : (A k == B k) = false := by simpa using he
            have HF : Hid (sameB m A m B = false) := sameB_not hlt he
            clear he
            go_wp2
            go_quiet (fail)
            go_wp2
            go_ret
            exact ⟨ret_bool HF.out.symm, _, World.drewN_drewN _ _ _⟩
        · go_wp2
          go_ret
          exact ⟨ret_bool (sameB_all (fun i hi => hA.out i (by omega))).symm, _, rfl⟩
  · rw [sameB_len hl]
    obtain ⟨x, c, rfl⟩ := sa
    obtain ⟨y, d, rfl⟩ := sb
    have hl' : ((m : Int) == (n : Int)) = false := by simp; omega
    clear ha hb
    go_enter Try.func7, Try.ntmps7
    go_wp2
    go_ret
    exact ⟨rfl, 0, rfl⟩
end Go.Proofs.Qxb6608702a
