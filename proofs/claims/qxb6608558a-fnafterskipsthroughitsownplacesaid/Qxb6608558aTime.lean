import Derived.Test.Qxb6608558aLeaf
import Derived.Laws.BitsAllLaws
import Derived.Outline
namespace Go.Proofs.Qxb6608558a
open Go.RowKit

theorem and_low {n : Int} (h0 : 0 ≤ n) (h1 : n < 1000000000) : bits BinOp.and IntKind.u64 n 1073741823 = n := by
  rw [u64_and n 1073741823 h0 (by omega) (by omega) (by omega)]
  have e : (1073741823 : Int).toNat = 2 ^ 30 - 1 := by decide
  rw [e, Nat.and_two_pow_sub_one_eq_mod, Nat.mod_eq_of_lt (by omega)]
  omega
theorem and_hi {n : Int} (h0 : 0 ≤ n) (h1 : n < 1000000000) : bits BinOp.and IntKind.u64 n 9223372036854775808 = 0 := by
  rw [u64_and n 9223372036854775808 h0 (by omega) (by omega) (by omega)]
  have e : (9223372036854775808 : Int).toNat = 2 ^ 63 := by decide
  rw [e, nat_bit, Nat.div_eq_of_lt (by omega)]
  simp
theorem and_both {n m : Int} (h0 : 0 ≤ n) (h1 : n < 1000000000) (h2 : 0 ≤ m) (h3 : m < 1000000000) : bits BinOp.and IntKind.u64 (bits BinOp.and IntKind.u64 n m) 9223372036854775808 = 0 := by
  rw [u64_and n m h0 (by omega) h2 (by omega)]
  have hl : n.toNat &&& m.toNat ≤ n.toNat := Nat.and_le_left
  exact and_hi (by omega) (by omega)
theorem or_zero {n : Int} (h0 : 0 ≤ n) (h1 : n < 1000000000) : bits BinOp.or IntKind.u64 0 n = n := by
  rw [u64_or 0 n (by omega) (by omega) h0 (by omega)]
  simp; omega

set_option maxHeartbeats 400000 in
theorem nsec_any (n : Int) (b : Nat) (w : World) (c0 : w.cell? ⟨b, 0, none⟩ = some (.int .u64 n)) (h0 : 0 ≤ n) (h1 : n < 1000000000) :
    Calls Try.prog 46 #[.pointer (some ⟨b, 0, none⟩)] w fun e w' => e = .returned (.int .i32 n) ∧ w' = w := by
  have k1 := and_low h0 h1
  go_enter Try.func46, Try.ntmps46
  go_wp2
  go_ret
  exact ⟨rfl, rfl⟩
set_option maxHeartbeats 400000 in
theorem sec_any (n s : Int) (b : Nat) (w : World) (c0 : w.cell? ⟨b, 0, none⟩ = some (.int .u64 n)) (c1 : w.cell? ⟨b, 1, none⟩ = some (.int .i64 s)) (h0 : 0 ≤ n) (h1 : n < 1000000000) :
    Calls Try.prog 45 #[.pointer (some ⟨b, 0, none⟩)] w fun e w' => e = .returned (.int .i64 s) ∧ w' = w := by
  have k1 := and_hi h0 h1
  go_enter Try.func45, Try.ntmps45
  go_wp2
  go_ret
  exact ⟨rfl, rfl⟩

/-- Two instants (nanoseconds, seconds), compared. -/
def cmpT (n1 s1 n2 s2 : Int) : Int := if s1 = s2 then cmpI n1 n2 else cmpI s1 s2
theorem cmpT_lt {n1 s1 n2 s2 : Int} (h : s1 < s2) : cmpT n1 s1 n2 s2 = -1 := by unfold cmpT; rw [if_neg (by omega), cmpI_lt h]
theorem cmpT_gt {n1 s1 n2 s2 : Int} (h : s2 < s1) : cmpT n1 s1 n2 s2 = 1 := by unfold cmpT; rw [if_neg (by omega), cmpI_gt h]
theorem cmpT_eq (n1 s1 n2 : Int) : cmpT n1 s1 n2 s1 = cmpI n1 n2 := by simp [cmpT]

set_option maxHeartbeats 1000000 in
theorem timeCompare_any (n1 s1 n2 s2 : Int) (w : World) (a0 : 0 ≤ n1) (a1 : n1 < 1000000000) (b0 : 0 ≤ n2) (b1 : n2 < 1000000000) :
    Calls Try.prog 35 #[.agg #[.int .u64 n1, .int .i64 s1, .pointer none], .agg #[.int .u64 n2, .int .i64 s2, .pointer none]] w
      fun e w' => e = .returned (.int .i64 (cmpT n1 s1 n2 s2)) ∧ w' = (w.alloc (.cells #[.int .u64 n1, .int .i64 s1, .pointer none] 34)).alloc (.cells #[.int .u64 n2, .int .i64 s2, .pointer none] 34) := by
  have k1 := and_both a0 a1 b0 b1
  have k2 := and_hi a0 a1
  have k3 := and_hi b0 b1
  have k4 := and_low a0 a1
  have k5 := and_low b0 b1
  rcases Int.lt_trichotomy s1 s2 with h | h | h
  · rw [cmpT_lt h]
    have hb : (s1 == s2) = false := by simp; omega
    go_enter Try.func35, Try.ntmps35
    go_wp2
    go_ret
    exact ⟨rfl, rfl⟩
  · subst h; rw [cmpT_eq]
    rcases Int.lt_trichotomy n1 n2 with h | h | h
    · rw [cmpI_lt h]
      go_enter Try.func35, Try.ntmps35
      go_wp2
      go_ret
      exact ⟨rfl, rfl⟩
    · subst h; rw [cmpI_eq]
      go_enter Try.func35, Try.ntmps35
      go_wp2
      go_ret
      exact ⟨rfl, rfl⟩
    · rw [cmpI_gt h]
      have h' : ¬ n1 < n2 := by omega
      go_enter Try.func35, Try.ntmps35
      go_wp2
      go_ret
      exact ⟨rfl, rfl⟩
  · rw [cmpT_gt h]
    have h' : ¬ s1 < s2 := by omega
    have hb : (s1 == s2) = false := by simp; omega
    go_enter Try.func35, Try.ntmps35
    go_wp2
    go_ret
    exact ⟨rfl, rfl⟩

theorem tdm (ns : Int) : ns.tmod 1000000000 + 1000000000 * ns.tdiv 1000000000 = ns := Int.tmod_add_mul_tdiv ns 1000000000
theorem tm_hi (ns : Int) : ns.tmod 1000000000 < 1000000000 := Int.tmod_lt_of_pos ns (by decide)
theorem tm_lo (ns : Int) : -1000000000 < ns.tmod 1000000000 := Int.lt_tmod_of_pos ns (by decide)

set_option maxHeartbeats 400000 in
/-- (*time.Time).addSec at an instant of zero seconds without the monotonic mark. -/
theorem addSec_any (n d : Int) (b : Nat) (w : World) (c0 : w.cell? ⟨b, 0, none⟩ = some (.int .u64 n)) (c1 : w.cell? ⟨b, 1, none⟩ = some (.int .i64 0)) (f1 : w.frozen? ⟨b, 1, none⟩ = false)
    (h0 : 0 ≤ n) (h1 : n < 1000000000) (d0 : -9223372039 ≤ d) (d1 : d ≤ 9223372039) :
    Calls Try.prog 48 #[.pointer (some ⟨b, 0, none⟩), .int .i64 d] w fun e w' => e = .returned (.tuple #[]) ∧ w' = w.setCell ⟨b, 1, none⟩ (.int .i64 d) := by
  have k1 := and_hi h0 h1
  by_cases hp : 0 < d
  · go_enter Try.func48, Try.ntmps48
    go_wp2
    go_end0
    exact ⟨rfl, rfl⟩
  · go_enter Try.func48, Try.ntmps48
    go_wp2
    go_end0
    exact ⟨rfl, rfl⟩

set_option maxHeartbeats 1000000 in
/-- (time.Time{}).Add. -/
theorem timeAdd_any (ns : Int) (w : World) (l0 : -9223372036854775808 ≤ ns) (l1 : ns ≤ 9223372036854775807) :
    Calls Try.prog 38 #[.agg #[.int .u64 0, .int .i64 0, .pointer none], .int .i64 ns] w
      fun e w' => e = .returned (.agg #[.int .u64 (ns % 1000000000), .int .i64 (ns / 1000000000), .pointer none]) ∧ ∃ c1 c2 : Array Value, w' = (w.alloc (.cells c1 34)).alloc (.cells c2 34) := by
  have e0 := tdm ns
  have e1 := tm_hi ns
  have e2 := tm_lo ns
  have z0 : bits BinOp.andNot IntKind.u64 0 1073741823 = 0 := by decide
  have z1 : bits BinOp.and IntKind.u64 0 1073741823 = 0 := by decide
  generalize hq : ns.tdiv 1000000000 = q at e0
  generalize hr : ns.tmod 1000000000 = r at e0 e1 e2
  have q0 : -9223372038 ≤ q := by omega
  have q1 : q ≤ 9223372038 := by omega
  by_cases hneg : r < 0
  · have en : ns % 1000000000 = r + 1000000000 := by omega
    have es : ns / 1000000000 = q - 1 := by omega
    rw [en, es]
    have k1 := or_zero (n := r + 1000000000) (by omega) (by omega)
    have k2 := and_hi (n := r + 1000000000) (by omega) (by omega)
    clear e0 en es
    go_enter Try.func38, Try.ntmps38
    go_wp2_with (go_at_call 46; refine (nsec_any 0 w.heap.size _ (by simp [go_sem]) (by omega) (by omega)).mono ?_; rintro e w' ⟨rfl, rfl⟩)
    refine (addSec_any (r + 1000000000) (q - 1) w.heap.size _ (by simp [go_sem]) (by simp [go_sem]) (by simp [go_sem]) (by omega) (by omega) (by omega) (by omega)).mono ?_
    rintro e w' ⟨rfl, rfl⟩
    go_wp2
    refine bodyPost_ret (v := .agg #[.int .u64 (r + 1000000000), .int .i64 (q - 1), .pointer none]) (by simp [results, Try.results38, go_sem]) rfl ⟨rfl, ?_⟩
    exact ⟨_, _, rfl⟩
  · have en : ns % 1000000000 = r := by omega
    have es : ns / 1000000000 = q := by omega
    rw [en, es]
    have k1 := or_zero (n := r) (by omega) (by omega)
    have k2 := and_hi (n := r) (by omega) (by omega)
    clear e0 en es
    go_enter Try.func38, Try.ntmps38
    go_wp2_with (go_at_call 46; refine (nsec_any 0 w.heap.size _ (by simp [go_sem]) (by omega) (by omega)).mono ?_; rintro e w' ⟨rfl, rfl⟩)
    refine (addSec_any r q w.heap.size _ (by simp [go_sem]) (by simp [go_sem]) (by simp [go_sem]) (by omega) (by omega) (by omega) (by omega)).mono ?_
    rintro e w' ⟨rfl, rfl⟩
    go_wp2
    refine bodyPost_ret (v := .agg #[.int .u64 r, .int .i64 q, .pointer none]) (by simp [results, Try.results38, go_sem]) rfl ⟨rfl, ?_⟩
    exact ⟨_, _, rfl⟩
end Go.Proofs.Qxb6608558a
