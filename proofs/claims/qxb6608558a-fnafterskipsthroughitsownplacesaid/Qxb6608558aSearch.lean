import Derived.Test.Qxb6608558aCmp
import Derived.Deep.RegionHeld3
namespace Go.Proofs.Qxb6608558a
open Go.RowKit

/-- The row of statuses, each compared with one place. -/
def RowC (w : World) (B len : Nat) (r2 n2 s2 : Int) (i2 : ByteArray) (C : Nat → Int) : Prop :=
  ∀ i, i < len → ∃ id hb nx n s, StAt w B (i * 8) id hb nx n s ∧ 0 ≤ n ∧ n < 1000000000 ∧ cmpP (rank hb nx) n s id r2 n2 s2 i2 = C i

theorem StAt.below {w w' : World} {b o : Nat} {id : ByteArray} {hb nx : Option Addr} {n s : Int} (h : StAt w b o id hb nx n s) {B : Nat} (hB : Below B w w') (hlt : b < B) : StAt w' b o id hb nx n s := by
  obtain ⟨q0, q1, q2, q3, q4, q5, q6, q7⟩ := h
  exact ⟨(hB.cell (p := ⟨b, _, none⟩) hlt).trans q0, (hB.cell (p := ⟨b, _, none⟩) hlt).trans q1, (hB.cell (p := ⟨b, _, none⟩) hlt).trans q2, (hB.cell (p := ⟨b, _, none⟩) hlt).trans q3,
    (hB.cell (p := ⟨b, _, none⟩) hlt).trans q4, (hB.cell (p := ⟨b, _, none⟩) hlt).trans q5, (hB.cell (p := ⟨b, _, none⟩) hlt).trans q6, (hB.cell (p := ⟨b, _, none⟩) hlt).trans q7⟩

/-- A place lies in block b. -/
def PcAt (w : World) (b : Nat) (r n s : Int) (id : ByteArray) : Prop :=
  w.cell? ⟨b, 0, none⟩ = some (.int .i64 r) ∧ w.cell? ⟨b, 1, none⟩ = some (.int .u64 n) ∧ w.cell? ⟨b, 2, none⟩ = some (.int .i64 s) ∧ w.cell? ⟨b, 3, none⟩ = some (.pointer none) ∧ w.cell? ⟨b, 4, none⟩ = some (.string id)
theorem PcAt.new (w : World) (r n s : Int) (id : ByteArray) : PcAt (w.alloc (.cells #[.int .i64 r, .int .u64 n, .int .i64 s, .pointer none, .string id] 36)) w.heap.size r n s id := by
  refine ⟨?_, ?_, ?_, ?_, ?_⟩ <;> simp [go_sem]
theorem PcAt.below {w w' : World} {b : Nat} {r n s : Int} {id : ByteArray} (h : PcAt w b r n s id) {B : Nat} (hB : Below B w w') (hb : b < B) : PcAt w' b r n s id := by
  obtain ⟨h0, h1, h2, h3, h4⟩ := h
  exact ⟨(hB.cell (p := ⟨b, 0, none⟩) hb).trans h0, (hB.cell (p := ⟨b, 1, none⟩) hb).trans h1, (hB.cell (p := ⟨b, 2, none⟩) hb).trans h2, (hB.cell (p := ⟨b, 3, none⟩) hb).trans h3, (hB.cell (p := ⟨b, 4, none⟩) hb).trans h4⟩

set_option maxHeartbeats 2000000 in
theorem search_any (B len K : Nat) (r2 n2 s2 : Int) (i2 : ByteArray) (C : Nat → Int) (w : World) (hl : len ≤ 65536) (hBw : B < w.heap.size) (b0 : 0 ≤ n2) (b1 : n2 < 1000000000)
    (hR : RowC w B len r2 n2 s2 i2 C) (hK : K < len) (hlo : ∀ i, i < K → C i < 0) (hmid : C K = 0) (hhi : ∀ i, K < i → i < len → 0 < C i) :
    Calls Try.prog 40 #[.slice (some ⟨B, 0, none⟩) len len, plV r2 n2 s2 i2, .func (.func 41) #[] #[]] w fun e w' => e = .returned (.tuple #[.int .i64 K, .bool true]) ∧ Below w.heap.size w w' := by
  have Hlo : Hid (∀ i, i < K → C i < 0) := hlo
  have Hmid : Hid (C K = 0) := hmid
  have Hhi : Hid (∀ i, K < i → i < len → 0 < C i) := hhi
  clear hlo hmid hhi
  go_enter Try.func40, Try.ntmps40
  go_wp2
  go_loopw [9, 10] (fun vi vj wr => ∃ i j : Nat, i ≤ K ∧ K ≤ j ∧ j ≤ len ∧ vi = .int .i64 i ∧ vj = .int .i64 j ∧ Below (w.heap.size + 1) (w.alloc (.cells #[.int .i64 r2, .int .u64 n2, .int .i64 s2, .pointer none, .string i2] 36)) wr) (fun vi vj _ => (intOf vj).toNat - (intOf vi).toNat)
  case atStart => exact ⟨0, len, by omega, by omega, by omega, rfl, rfl, Below.refl _ _⟩
  case round =>
    obtain ⟨i, j, hi, hj, hjl, rfl, rfl, hB⟩ := hrel
    have hZ : w.heap.size + 1 ≤ wr.heap.size := by have := hB.size; simpa using this
    have hZ1 : w.heap.size < wr.heap.size := by omega
    have hZ2 : B < wr.heap.size := by omega
    have hP := (PcAt.new w r2 n2 s2 i2).below hB (by omega)
    obtain ⟨p0, p1, p2, p3, p4⟩ := hP
    by_cases hlt : i < j
    · obtain ⟨h, eh⟩ : ∃ h : Nat, ((i : Int) + (j : Int)) / 2 = (h : Int) := ⟨(i + j) / 2, by omega⟩
      have h1 : i ≤ h := by omega
      have h2 : h < j := by omega
      have g2 : (0 : Int) ≤ (h : Int) := by omega
      have g3 : (h : Int) < (len : Int) := by omega
      obtain ⟨id, hb, nx, n, s, hst, a0, a1, hc⟩ := hR h (by omega)
      have hst2 := (hst.below ((Below.refl _ _).alloc (Nat.le_refl _) (.cells #[.int .i64 r2, .int .u64 n2, .int .i64 s2, .pointer none, .string i2] 36)) hBw).below hB (by omega)
      obtain ⟨q0, q1, q2, q3, q4, q5, q6, q7⟩ := hst2
      have Hc : Hid (cmpP (rank hb nx) n s id r2 n2 s2 i2 = C h) := hc
      clear hc
      by_cases hneg : C h < 0
      · have hk : h + 1 ≤ K := by
          rcases Nat.lt_trichotomy h K with g | g | g
          · omega
          · subst g; have := Hmid.out; omega
          · have := Hhi.out h g (by omega); omega
        go_wp2
        go_region_held3 (fun w' => w'.cell? ⟨w.heap.size, 0, none⟩ = some (.int .i64 r2) ∧ w'.cell? ⟨w.heap.size, 1, none⟩ = some (.int .u64 n2) ∧ w'.cell? ⟨w.heap.size, 2, none⟩ = some (.int .i64 s2) ∧ w'.cell? ⟨w.heap.size, 3, none⟩ = some (.pointer none) ∧ w'.cell? ⟨w.heap.size, 4, none⟩ = some (.string i2) ∧ w'.cell? ⟨B, h * 8, none⟩ = some (.string id) ∧ w'.cell? ⟨B, h * 8 + 1, none⟩ = some (.pointer hb) ∧ w'.cell? ⟨B, h * 8 + 2, none⟩ = some (.string ⟨#[]⟩) ∧ w'.cell? ⟨B, h * 8 + 3, none⟩ = some (.pointer nx) ∧ w'.cell? ⟨B, h * 8 + 4, none⟩ = some (.string ⟨#[]⟩) ∧ w'.cell? ⟨B, h * 8 + 5, none⟩ = some (.int .u64 n) ∧ w'.cell? ⟨B, h * 8 + 6, none⟩ = some (.int .i64 s) ∧ w'.cell? ⟨B, h * 8 + 7, none⟩ = some (.pointer none))
          (first | exact hS1 | (simp [go_sem, *]; done))
          (first | (go_at_call 41; refine (after1_any _ _ _ _ _ _ _ _ _ _ a0 a1 b0 b1).mono ?_; rintro e w1 ⟨rfl, hB1⟩; rw [Hc.out]; have hS1 : w1.cell? ⟨w.heap.size, 0, none⟩ = some (.int .i64 r2) ∧ w1.cell? ⟨w.heap.size, 1, none⟩ = some (.int .u64 n2) ∧ w1.cell? ⟨w.heap.size, 2, none⟩ = some (.int .i64 s2) ∧ w1.cell? ⟨w.heap.size, 3, none⟩ = some (.pointer none) ∧ w1.cell? ⟨w.heap.size, 4, none⟩ = some (.string i2) ∧ w1.cell? ⟨B, h * 8, none⟩ = some (.string id) ∧ w1.cell? ⟨B, h * 8 + 1, none⟩ = some (.pointer hb) ∧ w1.cell? ⟨B, h * 8 + 2, none⟩ = some (.string ⟨#[]⟩) ∧ w1.cell? ⟨B, h * 8 + 3, none⟩ = some (.pointer nx) ∧ w1.cell? ⟨B, h * 8 + 4, none⟩ = some (.string ⟨#[]⟩) ∧ w1.cell? ⟨B, h * 8 + 5, none⟩ = some (.int .u64 n) ∧ w1.cell? ⟨B, h * 8 + 6, none⟩ = some (.int .i64 s) ∧ w1.cell? ⟨B, h * 8 + 7, none⟩ = some (.pointer none) := ⟨(hB1.cell (p := ⟨w.heap.size, 0, none⟩) hZ1).trans p0, (hB1.cell (p := ⟨w.heap.size, 1, none⟩) hZ1).trans p1, (hB1.cell (p := ⟨w.heap.size, 2, none⟩) hZ1).trans p2, (hB1.cell (p := ⟨w.heap.size, 3, none⟩) hZ1).trans p3, (hB1.cell (p := ⟨w.heap.size, 4, none⟩) hZ1).trans p4, (hB1.cell (p := ⟨B, h * 8, none⟩) hZ2).trans q0, (hB1.cell (p := ⟨B, h * 8 + 1, none⟩) hZ2).trans q1, (hB1.cell (p := ⟨B, h * 8 + 2, none⟩) hZ2).trans q2, (hB1.cell (p := ⟨B, h * 8 + 3, none⟩) hZ2).trans q3, (hB1.cell (p := ⟨B, h * 8 + 4, none⟩) hZ2).trans q4, (hB1.cell (p := ⟨B, h * 8 + 5, none⟩) hZ2).trans q5, (hB1.cell (p := ⟨B, h * 8 + 6, none⟩) hZ2).trans q6, (hB1.cell (p := ⟨B, h * 8 + 7, none⟩) hZ2).trans q7⟩))
        all_goals
          go_wp2
          go_roundw
          case rel => exact ⟨h + 1, j, by omega, by omega, by omega, by go_num, rfl, hB.drew.trans (hB1.mono hZ)⟩
          case measure => simp [intOf]; omega
      · have hk : K ≤ h := by
          rcases Nat.lt_or_ge h K with g | g
          · have := Hlo.out h g; omega
          · exact g
        go_wp2
        go_region_held3 (fun w' => w'.cell? ⟨w.heap.size, 0, none⟩ = some (.int .i64 r2) ∧ w'.cell? ⟨w.heap.size, 1, none⟩ = some (.int .u64 n2) ∧ w'.cell? ⟨w.heap.size, 2, none⟩ = some (.int .i64 s2) ∧ w'.cell? ⟨w.heap.size, 3, none⟩ = some (.pointer none) ∧ w'.cell? ⟨w.heap.size, 4, none⟩ = some (.string i2) ∧ w'.cell? ⟨B, h * 8, none⟩ = some (.string id) ∧ w'.cell? ⟨B, h * 8 + 1, none⟩ = some (.pointer hb) ∧ w'.cell? ⟨B, h * 8 + 2, none⟩ = some (.string ⟨#[]⟩) ∧ w'.cell? ⟨B, h * 8 + 3, none⟩ = some (.pointer nx) ∧ w'.cell? ⟨B, h * 8 + 4, none⟩ = some (.string ⟨#[]⟩) ∧ w'.cell? ⟨B, h * 8 + 5, none⟩ = some (.int .u64 n) ∧ w'.cell? ⟨B, h * 8 + 6, none⟩ = some (.int .i64 s) ∧ w'.cell? ⟨B, h * 8 + 7, none⟩ = some (.pointer none))
          (first | exact hS1 | (simp [go_sem, *]; done))
          (first | (go_at_call 41; refine (after1_any _ _ _ _ _ _ _ _ _ _ a0 a1 b0 b1).mono ?_; rintro e w1 ⟨rfl, hB1⟩; rw [Hc.out]; have hS1 : w1.cell? ⟨w.heap.size, 0, none⟩ = some (.int .i64 r2) ∧ w1.cell? ⟨w.heap.size, 1, none⟩ = some (.int .u64 n2) ∧ w1.cell? ⟨w.heap.size, 2, none⟩ = some (.int .i64 s2) ∧ w1.cell? ⟨w.heap.size, 3, none⟩ = some (.pointer none) ∧ w1.cell? ⟨w.heap.size, 4, none⟩ = some (.string i2) ∧ w1.cell? ⟨B, h * 8, none⟩ = some (.string id) ∧ w1.cell? ⟨B, h * 8 + 1, none⟩ = some (.pointer hb) ∧ w1.cell? ⟨B, h * 8 + 2, none⟩ = some (.string ⟨#[]⟩) ∧ w1.cell? ⟨B, h * 8 + 3, none⟩ = some (.pointer nx) ∧ w1.cell? ⟨B, h * 8 + 4, none⟩ = some (.string ⟨#[]⟩) ∧ w1.cell? ⟨B, h * 8 + 5, none⟩ = some (.int .u64 n) ∧ w1.cell? ⟨B, h * 8 + 6, none⟩ = some (.int .i64 s) ∧ w1.cell? ⟨B, h * 8 + 7, none⟩ = some (.pointer none) := ⟨(hB1.cell (p := ⟨w.heap.size, 0, none⟩) hZ1).trans p0, (hB1.cell (p := ⟨w.heap.size, 1, none⟩) hZ1).trans p1, (hB1.cell (p := ⟨w.heap.size, 2, none⟩) hZ1).trans p2, (hB1.cell (p := ⟨w.heap.size, 3, none⟩) hZ1).trans p3, (hB1.cell (p := ⟨w.heap.size, 4, none⟩) hZ1).trans p4, (hB1.cell (p := ⟨B, h * 8, none⟩) hZ2).trans q0, (hB1.cell (p := ⟨B, h * 8 + 1, none⟩) hZ2).trans q1, (hB1.cell (p := ⟨B, h * 8 + 2, none⟩) hZ2).trans q2, (hB1.cell (p := ⟨B, h * 8 + 3, none⟩) hZ2).trans q3, (hB1.cell (p := ⟨B, h * 8 + 4, none⟩) hZ2).trans q4, (hB1.cell (p := ⟨B, h * 8 + 5, none⟩) hZ2).trans q5, (hB1.cell (p := ⟨B, h * 8 + 6, none⟩) hZ2).trans q6, (hB1.cell (p := ⟨B, h * 8 + 7, none⟩) hZ2).trans q7⟩))
        all_goals
          go_wp2
          go_roundw
          case rel => exact ⟨i, h, by omega, by omega, by omega, rfl, rfl, hB.drew.trans (hB1.mono hZ)⟩
          case measure => simp [intOf]; omega
    · obtain rfl : i = K := by omega
      obtain ⟨id, hb, nx, n, s, hst, a0, a1, hc⟩ := hR i (by omega)
      have hst2 := (hst.below ((Below.refl _ _).alloc (Nat.le_refl _) (.cells #[.int .i64 r2, .int .u64 n2, .int .i64 s2, .pointer none, .string i2] 36)) hBw).below hB (by omega)
      obtain ⟨q0, q1, q2, q3, q4, q5, q6, q7⟩ := hst2
      have Hc : Hid (cmpP (rank hb nx) n s id r2 n2 s2 i2 = 0) := hc.trans Hmid.out
      clear hc
      have g0 : (i : Int) < (len : Int) := by omega
      have g2 : (0 : Int) ≤ (i : Int) := by omega
      have g1 : decide ((i : Int) < (len : Int)) = true := by simpa using g0
      go_wp2
      go_region_held3 (fun w' => w'.cell? ⟨w.heap.size, 0, none⟩ = some (.int .i64 r2) ∧ w'.cell? ⟨w.heap.size, 1, none⟩ = some (.int .u64 n2) ∧ w'.cell? ⟨w.heap.size, 2, none⟩ = some (.int .i64 s2) ∧ w'.cell? ⟨w.heap.size, 3, none⟩ = some (.pointer none) ∧ w'.cell? ⟨w.heap.size, 4, none⟩ = some (.string i2) ∧ w'.cell? ⟨B, i * 8, none⟩ = some (.string id) ∧ w'.cell? ⟨B, i * 8 + 1, none⟩ = some (.pointer hb) ∧ w'.cell? ⟨B, i * 8 + 2, none⟩ = some (.string ⟨#[]⟩) ∧ w'.cell? ⟨B, i * 8 + 3, none⟩ = some (.pointer nx) ∧ w'.cell? ⟨B, i * 8 + 4, none⟩ = some (.string ⟨#[]⟩) ∧ w'.cell? ⟨B, i * 8 + 5, none⟩ = some (.int .u64 n) ∧ w'.cell? ⟨B, i * 8 + 6, none⟩ = some (.int .i64 s) ∧ w'.cell? ⟨B, i * 8 + 7, none⟩ = some (.pointer none))
          (first | exact hS1 | (simp [go_sem, *]; done))
          (first | (go_at_call 41; refine (after1_any _ _ _ _ _ _ _ _ _ _ a0 a1 b0 b1).mono ?_; rintro e w1 ⟨rfl, hB1⟩; rw [Hc.out]; have hS1 : w1.cell? ⟨w.heap.size, 0, none⟩ = some (.int .i64 r2) ∧ w1.cell? ⟨w.heap.size, 1, none⟩ = some (.int .u64 n2) ∧ w1.cell? ⟨w.heap.size, 2, none⟩ = some (.int .i64 s2) ∧ w1.cell? ⟨w.heap.size, 3, none⟩ = some (.pointer none) ∧ w1.cell? ⟨w.heap.size, 4, none⟩ = some (.string i2) ∧ w1.cell? ⟨B, i * 8, none⟩ = some (.string id) ∧ w1.cell? ⟨B, i * 8 + 1, none⟩ = some (.pointer hb) ∧ w1.cell? ⟨B, i * 8 + 2, none⟩ = some (.string ⟨#[]⟩) ∧ w1.cell? ⟨B, i * 8 + 3, none⟩ = some (.pointer nx) ∧ w1.cell? ⟨B, i * 8 + 4, none⟩ = some (.string ⟨#[]⟩) ∧ w1.cell? ⟨B, i * 8 + 5, none⟩ = some (.int .u64 n) ∧ w1.cell? ⟨B, i * 8 + 6, none⟩ = some (.int .i64 s) ∧ w1.cell? ⟨B, i * 8 + 7, none⟩ = some (.pointer none) := ⟨(hB1.cell (p := ⟨w.heap.size, 0, none⟩) hZ1).trans p0, (hB1.cell (p := ⟨w.heap.size, 1, none⟩) hZ1).trans p1, (hB1.cell (p := ⟨w.heap.size, 2, none⟩) hZ1).trans p2, (hB1.cell (p := ⟨w.heap.size, 3, none⟩) hZ1).trans p3, (hB1.cell (p := ⟨w.heap.size, 4, none⟩) hZ1).trans p4, (hB1.cell (p := ⟨B, i * 8, none⟩) hZ2).trans q0, (hB1.cell (p := ⟨B, i * 8 + 1, none⟩) hZ2).trans q1, (hB1.cell (p := ⟨B, i * 8 + 2, none⟩) hZ2).trans q2, (hB1.cell (p := ⟨B, i * 8 + 3, none⟩) hZ2).trans q3, (hB1.cell (p := ⟨B, i * 8 + 4, none⟩) hZ2).trans q4, (hB1.cell (p := ⟨B, i * 8 + 5, none⟩) hZ2).trans q5, (hB1.cell (p := ⟨B, i * 8 + 6, none⟩) hZ2).trans q6, (hB1.cell (p := ⟨B, i * 8 + 7, none⟩) hZ2).trans q7⟩))
      all_goals
        go_wp2
        go_ret2
        exact ⟨rfl, Bnx (((Below.refl _ _).alloc (Nat.le_refl _) _).trans (hB.mono (by omega))).drew hB1⟩
end Go.Proofs.Qxb6608558a
