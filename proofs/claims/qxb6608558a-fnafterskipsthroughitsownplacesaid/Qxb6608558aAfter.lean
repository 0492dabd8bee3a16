import Derived.Test.Qxb6608558aSearch
import Derived.LaidEqlPtr
namespace Go.Proofs.Qxb6608558a
open Go.RowKit
set_option maxHeartbeats 2000000 in
theorem after_mid (B len K : Nat) (r2 n2 s2 : Int) (i2 : ByteArray) (C : Nat → Int) (w : World) (hl : len ≤ 65536) (hBw : B < w.heap.size) (b0 : 0 ≤ n2) (b1 : n2 < 1000000000)
    (hR : RowC w B len r2 n2 s2 i2 C) (hK : K < len) (hlo : Hid (∀ i, i < K → C i < 0)) (hmid : Hid (C K = 0)) (hhi : Hid (∀ i, K < i → i < len → 0 < C i)) (hm : K + 1 < len) :
    Calls Try.prog 27 #[.slice (some ⟨B, 0, none⟩) len len, plV r2 n2 s2 i2] w fun e w' => e = .returned (.slice (some ⟨B, (K + 1) * 8, none⟩) (len - (K + 1)) (len - (K + 1))) ∧ Below w.heap.size w w' := by
  have hne : ¬ len = K + 1 := by omega
  have hR2 : RowC (w.alloc (.cells #[.int .i64 r2, .int .u64 n2, .int .i64 s2, .pointer none, .string i2] 36)) B len r2 n2 s2 i2 C := fun i hi => by
    obtain ⟨id, hb, nx, n, s, hst, h1, h2, h3⟩ := hR i hi
    exact ⟨id, hb, nx, n, s, hst.below ((Below.refl _ _).alloc (Nat.le_refl _) _) hBw, h1, h2, h3⟩
  go_enter Try.func27, Try.ntmps27
  go_wp2_with (go_at_call 40; refine (search_any B len K r2 n2 s2 i2 C _ hl (by simp; omega) b0 b1 hR2 hK hlo.out hmid.out hhi.out).mono ?_; rintro e w1 ⟨rfl, hB1⟩)
  go_ret
  exact ⟨rfl, Bnx (Bal (Below.refl _ _) _) hB1⟩
set_option maxHeartbeats 2000000 in
theorem after_last (B len K : Nat) (r2 n2 s2 : Int) (i2 : ByteArray) (C : Nat → Int) (w : World) (hl : len ≤ 65536) (hBw : B < w.heap.size) (b0 : 0 ≤ n2) (b1 : n2 < 1000000000)
    (hR : RowC w B len r2 n2 s2 i2 C) (hK : K < len) (hlo : Hid (∀ i, i < K → C i < 0)) (hmid : Hid (C K = 0)) (hhi : Hid (∀ i, K < i → i < len → 0 < C i)) (hm : len = K + 1) :
    Calls Try.prog 27 #[.slice (some ⟨B, 0, none⟩) len len, plV r2 n2 s2 i2] w fun e w' => e = .returned (.slice (some ⟨B, 0, none⟩) 0 0) ∧ Below w.heap.size w w' := by
  subst hm
  have hR2 : RowC (w.alloc (.cells #[.int .i64 r2, .int .u64 n2, .int .i64 s2, .pointer none, .string i2] 36)) B (K + 1) r2 n2 s2 i2 C := fun i hi => by
    obtain ⟨id, hb, nx, n, s, hst, h1, h2, h3⟩ := hR i hi
    exact ⟨id, hb, nx, n, s, hst.below ((Below.refl _ _).alloc (Nat.le_refl _) _) hBw, h1, h2, h3⟩
  go_enter Try.func27, Try.ntmps27
  go_wp2_with (go_at_call 40; refine (search_any B (K + 1) K r2 n2 s2 i2 C _ hl (by simp; omega) b0 b1 hR2 hK hlo.out hmid.out hhi.out).mono ?_; rintro e w1 ⟨rfl, hB1⟩)
  go_ret
  exact ⟨rfl, Bnx (Bal (Below.refl _ _) _) hB1⟩

set_option maxHeartbeats 2000000 in
theorem suffix_m (B len k m : Nat) (w : World) (hl : len ≤ 65536) (hm : 0 < m) (he : Hid (k + m = len)) :
    Calls Try.prog 28 #[.slice (some ⟨B, k * 8, none⟩) m m, .slice (some ⟨B, 0, none⟩) len len, .int .i64 k] w fun e w' => e = .returned (.bool true) ∧ ∃ nq, w' = w.drewN nq := by
  have heq := fun (wx : World) => run_eql_ptr_same (P := Try.prog) (w := wx) (tp := 80) (te := 40) (j := (Try.prog.info? 40).get!) ⟨B, k * 8, none⟩ Try.underlying80 (by kernel_rfl)
  have e1 : (len : Int) - (k : Int) = (m : Int) := by have := he.out; omega
  have hk : k < len := by have := he.out; omega
  have hg : ((m : Int) == 0) = false := by simp; omega
  have g1 : (0 : Int) < (m : Int) := by omega
  have g2 : (k : Int) < (len : Int) := by omega
  have g3 : (0 : Int) ≤ (k : Int) := by omega
  go_enter Try.func28, Try.ntmps28
  go_wp2
  go_quiet (fail)
  go_wp2
  go_ret
  exact ⟨rfl, _, rfl⟩
theorem suffix_mid (B len k : Nat) (w : World) (hl : len ≤ 65536) (hk : k < len) :
    Calls Try.prog 28 #[.slice (some ⟨B, k * 8, none⟩) (len - k) (len - k), .slice (some ⟨B, 0, none⟩) len len, .int .i64 k] w fun e w' => e = .returned (.bool true) ∧ ∃ nq, w' = w.drewN nq :=
  suffix_m B len k (len - k) w hl (by omega) (by show k + (len - k) = len; omega)
set_option maxHeartbeats 2000000 in
theorem suffix_last (B len : Nat) (w : World) (hl : len ≤ 65536) :
    Calls Try.prog 28 #[.slice (some ⟨B, 0, none⟩) 0 0, .slice (some ⟨B, 0, none⟩) len len, .int .i64 len] w fun e w' => e = .returned (.bool true) ∧ ∃ nq, w' = w.drewN nq := by
  have g3 : (0 : Int) ≤ (len : Int) := by omega
  go_enter Try.func28, Try.ntmps28
  go_wp2
  go_quiet (fail)
  go_wp2
  go_ret
  exact ⟨rfl, _, rfl⟩
end Go.Proofs.Qxb6608558a
