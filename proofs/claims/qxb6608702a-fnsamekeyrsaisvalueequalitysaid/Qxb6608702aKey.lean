import Derived.Test.Qxb6608702aRsaB
namespace Go.Proofs.Qxb6608702a
open Go.RowKit

theorem eq_same (Q : Nat) (w : World) : (binOp .eql 37 (.iface 28 (.pointer (some ⟨Q, 0, none⟩))) (.iface 28 (.pointer (some ⟨Q, 0, none⟩)))).run Try.prog w = .ok (.bool true) w :=
  run_eql_iface_ptr_same (P := Try.prog) (te := 36) (i := (Try.prog.info? 28).get!) (j := (Try.prog.info? 36).get!) w ⟨Q, 0, none⟩ Try.underlying37 Try.underlying28 (by kernel_rfl) (by kernel_rfl) (by kernel_rfl)

theorem eq_other {Q1 Q2 P1 P2 : Nat} {e1 e2 : Int} {w : World} (k1 : KeyAt w Q1 P1 e1) (k2 : KeyAt w Q2 P2 e2) (h : Q1 ≠ Q2) : (binOp .eql 37 (.iface 28 (.pointer (some ⟨Q1, 0, none⟩))) (.iface 28 (.pointer (some ⟨Q2, 0, none⟩)))).run Try.prog w = .ok (.bool false) w :=
  run_eql_iface_ptr_other (P := Try.prog) (te := 36) (i := (Try.prog.info? 28).get!) (j := (Try.prog.info? 36).get!) w Try.underlying37 Try.underlying28 (by kernel_rfl) (by kernel_rfl) (by kernel_rfl) (by rw [show ((Try.prog.info? 36).get!).size = 2 by kernel_rfl]; decide) (fun e => h (by injection e)) k1.2 k2.2

set_option maxHeartbeats 1000000 in
theorem sameKey_same (Q : Nat) (w : World) :
    Calls Try.prog 12 #[.iface 28 (.pointer (some ⟨Q, 0, none⟩)), .iface 28 (.pointer (some ⟨Q, 0, none⟩))] w fun e w' => e = .returned (.bool true) ∧ w = w' := by
  have t1 := tb28
  have t2 := tb38
  have t3 := eq_same Q
  go_enter Try.func12, Try.ntmps12
  go_wp2
  go_ret
  exact ⟨rfl, rfl⟩

set_option maxHeartbeats 1000000 in
theorem sameKey_other (Q1 Q2 P1 P2 : Nat) (e1 e2 : Int) (D1 D2 : Nat → Int) (w : World) (h1 : Digs D1) (h2 : Digs D2) (k1 : KeyAt w Q1 P1 e1) (k2 : KeyAt w Q2 P2 e2) (i1 : IntAt w P1 D1) (i2 : IntAt w P2 D2) (h : Q1 ≠ Q2) :
    Calls Try.prog 12 #[.iface 28 (.pointer (some ⟨Q1, 0, none⟩)), .iface 28 (.pointer (some ⟨Q2, 0, none⟩))] w (Decides ((∀ t, D1 t = D2 t) ∧ e1 = e2) w) := by
  have t1 := tb28
  have t2 := tb38
  have t4 := tb39
  have t3 := eq_other k1 k2 h
  have big := rsaEqual_any Q1 Q2 P1 P2 e1 e2 D1 D2 w h1 h2 k1 k2 i1 i2
  clear k1 k2 i1 i2 h1 h2
  have BIG : Hid (Calls Try.prog 46 #[.pointer (some ⟨Q1, 0, none⟩), .iface 28 (.pointer (some ⟨Q2, 0, none⟩))] w (Decides ((∀ t, D1 t = D2 t) ∧ e1 = e2) w)) := big
  clear big
  go_enter Try.func12, Try.ntmps12
  go_wp2_with fail
  refine BIG.out.mono ?_
  rintro e w1 ⟨b, rfl, hb, hB⟩
  have Hb : Hid (b = true ↔ (∀ t, D1 t = D2 t) ∧ e1 = e2) := hb
  clear hb BIG
  go_wp2
  go_ret
  exact ⟨b, rfl, Hb.out, hB⟩

/-- A slice whose length fits its capacity. -/
def Fits (v : Value) : Prop := ∀ x n c, v = .slice x n c → n ≤ c

set_option maxHeartbeats 1000000 in
theorem one_any (v : Value) (n : Nat) (A : Nat → Int) (e1 : Int) (w : World) (hn : n ≤ 65536) (hv : Row w v n A) (hvc : Fits v) (hA : Byt n A) :
    Calls Try.prog 9 #[v, .int .i64 e1] w fun e w' => e = .returned (.bool true) ∧ Below w.heap.size w w' := by
  have HV : Hid (∀ o, Row (w.alloc o) v n A) := fun o => hv.below (Bal (Below.refl _ w) o) (Nat.le_refl _)
  clear hv
  go_enter Try.func9, Try.ntmps9
  go_wp2_with fail
  refine (intSetBytes_any w.heap.size v n A _ hn (HV.out _) hvc hA (by simp) (by simp [go_sem]) (by simp [go_sem]) (by simp [go_sem]) (by simp [go_sem])).mono ?_
  rintro e w1 ⟨rfl, i1, B1⟩
  clear i1
  have B1' := ((Below.refl w.heap.size w).alloc (Nat.le_refl _) _).trans B1
  clear B1
  go_wp2_with fail
  refine (sameKey_same _ _).mono ?_
  rintro e w2 ⟨rfl, rfl⟩
  go_wp2
  go_ret
  exact ⟨rfl, Bal B1' _⟩
end Go.Proofs.Qxb6608702a
