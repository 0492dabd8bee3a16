import Derived.Test.Qxb6608702aKey
namespace Go.Proofs.Qxb6608702a
open Go.RowKit

theorem digs_of {A : Nat → Int} {n : Nat} (h : Byt n A) (hn : n ≤ 65536) : Digs (dig A n) := ⟨dig_byt h, fun t ht => by unfold dig; rw [if_neg (by omega)]⟩
theorem ne_next {a b : Nat} (h : a < b) : a ≠ b := Nat.ne_of_lt h

set_option maxRecDepth 100000 in
set_option maxHeartbeats 2000000 in
theorem two_any (v1 v2 : Value) (n1 n2 : Nat) (A1 A2 : Nat → Int) (e1 e2 : Int) (w : World) (hn1 : n1 ≤ 65536) (hn2 : n2 ≤ 65536) (hv1 : Row w v1 n1 A1) (hv2 : Row w v2 n2 A2) (hf1 : Fits v1) (hf2 : Fits v2) (hA1 : Byt n1 A1) (hA2 : Byt n2 A2) :
    Calls Try.prog 10 #[v1, .int .i64 e1, v2, .int .i64 e2] w (Decides ((∀ t, dig A1 n1 t = dig A2 n2 t) ∧ e1 = e2) w) := by
  have HV : Hid (∀ o, Row (w.alloc o) v1 n1 A1) := fun o => hv1.below (Bal (Below.refl _ w) o) (Nat.le_refl _)
  have HV2 : Hid (Row w v2 n2 A2) := hv2
  clear hv1 hv2
  go_enter Try.func10, Try.ntmps10
  go_wp2_with fail
  refine (intSetBytes_any w.heap.size v1 n1 A1 _ hn1 (HV.out _) hf1 hA1 (by simp) (by simp [go_sem]) (by simp [go_sem]) (by simp [go_sem]) (by simp [go_sem])).mono ?_
  rintro e w1 ⟨rfl, i1, B1⟩
  have B1' := ((Below.refl w.heap.size w).alloc (Nat.le_refl _) _).trans B1
  have I1 : Hid (IntAt w1 w.heap.size (dig A1 n1)) := i1
  have k1 := KeyAt.new w1 w.heap.size e1
  have K1 : Hid (KeyAt (w1.alloc (.cells #[.pointer (some ⟨w.heap.size, 0, none⟩), .int .i64 e1] 36)) w1.heap.size w.heap.size e1) := k1
  have B2 := Bal B1' (.cells #[.pointer (some ⟨w.heap.size, 0, none⟩), .int .i64 e1] 36)
  have R2 : Hid (∀ o, Row ((w1.alloc (.cells #[.pointer (some ⟨w.heap.size, 0, none⟩), .int .i64 e1] 36)).alloc o) v2 n2 A2) := fun o => HV2.out.below (Bal B2 o) (Nat.le_refl _)
  clear B1 i1 k1 HV HV2 B1'
  go_wp2_with fail
  refine (intSetBytes_any (w1.heap.size + 1) v2 n2 A2 _ hn2 (R2.out _) hf2 hA2 (by simp) (by simp [go_sem]) (by simp [go_sem]) (by simp [go_sem]) (by simp [go_sem])).mono ?_
  rintro e w2 ⟨rfl, i2, B3⟩
  have B4 := ((Below.refl (w1.heap.size + 1) (w1.alloc (.cells #[.pointer (some ⟨w.heap.size, 0, none⟩), .int .i64 e1] 36))).alloc (by simp) _).trans B3
  have B5 := (Below.alloc (Below.refl w1.heap.size w1) (Nat.le_refl _) _).trans (B4.mono (Nat.le_succ _))
  have I1' : Hid (IntAt w2 w.heap.size (dig A1 n1)) := I1.out.below B5 (Nat.le_refl _)
  have K1' : Hid (KeyAt w2 w1.heap.size w.heap.size e1) := K1.out.below B4 (by simp)
  have I2 : Hid (IntAt w2 (w1.heap.size + 1) (dig A2 n2)) := i2
  have Bw2 := B2.trans (B4.mono (Nat.le_trans B2.size (by simp)))
  have K2 : Hid (KeyAt (w2.alloc (.cells #[.pointer (some ⟨w1.heap.size + 1, 0, none⟩), .int .i64 e2] 36)) w2.heap.size (w1.heap.size + 1) e2) := KeyAt.new w2 (w1.heap.size + 1) e2
  clear B3 B4 B5 I1 K1 i2 R2 B2
  have hlt : Hid (w1.heap.size < w2.heap.size) := K1'.out.1
  go_wp2_with fail
  have B6 := Below.alloc (Below.refl w2.heap.size w2) (Nat.le_refl _) (.cells #[.pointer (some ⟨w1.heap.size + 1, 0, none⟩), .int .i64 e2] 36)
  refine (sameKey_other _ _ _ _ e1 e2 (dig A1 n1) (dig A2 n2) _ (digs_of hA1 hn1) (digs_of hA2 hn2) (K1'.out.below B6 (Nat.le_refl _)) K2.out (I1'.out.below B6 (Nat.le_refl _)) (I2.out.below B6 (Nat.le_refl _)) (ne_next hlt.out)).mono ?_
  rintro e w3 ⟨b, rfl, hb, hB⟩
  have Hb : Hid (b = true ↔ (∀ t, dig A1 n1 t = dig A2 n2 t) ∧ e1 = e2) := hb
  clear hb
  go_wp2
  go_ret
  exact ⟨b, rfl, Hb.out, Bnx (Bal Bw2 _) hB⟩
end Go.Proofs.Qxb6608702a
