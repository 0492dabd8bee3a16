import Derived.Test.Qxb6608777aDoorFin
namespace Go.Proofs.Qxb6608777aDoor
open Go.RowKit

/-- Nothing but block Z has turned, and no block has come. -/
structure Only (Z : Nat) (w w' : World) : Prop where
  os : w'.os = w.os
  tape : w'.tape = w.tape
  output : w'.output = w.output
  size : w'.heap.size = w.heap.size
  block : ∀ k, k ≠ Z → w'.heap[k]? = w.heap[k]?
theorem Only.refl (Z : Nat) (w : World) : Only Z w w := ⟨rfl, rfl, rfl, rfl, fun _ _ => rfl⟩
theorem Only.trans {Z : Nat} {a b c : World} (h : Only Z a b) (k : Only Z b c) : Only Z a c :=
  ⟨k.os.trans h.os, k.tape.trans h.tape, k.output.trans h.output, k.size.trans h.size, fun i hi => (k.block i hi).trans (h.block i hi)⟩
theorem Only.set {Z : Nat} {a w : World} (h : Only Z a w) (q : Nat) (v : Value) : Only Z a (w.setCell ⟨Z, q, none⟩ v) :=
  h.trans ⟨rfl, rfl, rfl, by simp [World.setCell], fun _ hk => Below.heap_setCell _ _ _ _ hk⟩
theorem Only.drew {Z : Nat} {a w : World} (h : Only Z a w) : Only Z a w.drew := ⟨h.os, h.tape, h.output, h.size, h.block⟩
theorem Only.below {Z B : Nat} {w w' : World} (h : Only Z w w') (hB : B ≤ Z) : Below B w w' := ⟨h.os, h.tape, h.output, Nat.le_of_eq h.size.symm, fun k hk => h.block k (by omega)⟩
theorem Only.cell {Z : Nat} {w w' : World} (h : Only Z w w') {p : Addr} (hp : p.block ≠ Z) : w'.cell? p = w.cell? p := World.cell?_of_block (w := w) (h.block p.block hp)
theorem Only.frozen {Z : Nat} {w w' : World} (h : Only Z w w') {p : Addr} (hp : p.block ≠ Z) : w'.frozen? p = w.frozen? p := World.frozen?_of_block (w := w) (h.block p.block hp)

/-- n cells from offset o of block Z on, that may be written. -/
def Row (w : World) (Z o n : Nat) (F : Nat → Value) : Prop := ∀ k, k < n → w.cell? ⟨Z, o + k, none⟩ = some (F k) ∧ w.frozen? ⟨Z, o + k, none⟩ = false
theorem Row.only {w w' : World} {Z Y o n : Nat} {F : Nat → Value} (h : Row w Y o n F) (k : Only Z w w') (hne : Y ≠ Z) : Row w' Y o n F := fun i hi =>
  ⟨(k.cell (p := ⟨Y, o + i, none⟩) hne).trans (h i hi).1, (k.frozen (p := ⟨Y, o + i, none⟩) hne).trans (h i hi).2⟩
theorem Row.below {w w' : World} {B Y o n : Nat} {F : Nat → Value} (h : Row w Y o n F) (k : Below B w w') (hlt : Y < B) : Row w' Y o n F := fun i hi =>
  ⟨(k.cell (p := ⟨Y, o + i, none⟩) hlt).trans (h i hi).1, (k.frozen (p := ⟨Y, o + i, none⟩) hlt).trans (h i hi).2⟩
theorem Row.apart {w : World} {Z o n q : Nat} {F : Nat → Value} {v : Value} (h : Row w Z o n F) (hq : q < o ∨ o + n ≤ q) : Row (w.setCell ⟨Z, q, none⟩ v) Z o n F := fun i hi =>
  ⟨by rw [World.cell?_setCell_other _ _ _ _ (fun e => by injection e with e1 e2; omega)]; exact (h i hi).1, by rw [World.frozen?_setCell]; exact (h i hi).2⟩
theorem Row.set {w : World} {Z o n q : Nat} {F G : Nat → Value} {v : Value} (h : Row w Z o n F) (hG : ∀ k, k < n → G k = if k = q then v else F k) (hq : q < n) : Row (w.setCell ⟨Z, o + q, none⟩ v) Z o n G := fun i hi => by
  rw [hG i hi]
  refine ⟨?_, by rw [World.frozen?_setCell]; exact (h i hi).2⟩
  by_cases e : i = q
  · subst e; rw [if_pos rfl]; exact World.cell?_setCell_same _ _ _ (h i hi).1
  · rw [if_neg e, World.cell?_setCell_other _ _ _ _ (fun e' => by injection e' with e1 e2; omega)]; exact (h i hi).1
theorem Row.drew {w : World} {Z o n : Nat} {F : Nat → Value} (h : Row w Z o n F) : Row w.drew Z o n F := h
theorem Row.congr {w : World} {Z o n : Nat} {F G : Nat → Value} (h : Row w Z o n F) (e : ∀ k, k < n → G k = F k) : Row w Z o n G := fun i hi => by rw [e i hi]; exact h i hi

theorem bit_test (v j : Nat) (hv : v < 18446744073709551616) : (bits BinOp.and IntKind.u64 ((v : Int) / 2 ^ j) 1 == 1) = v.testBit j := by
  have h1 : v / 2 ^ j ≤ v := Nat.div_le_self _ _
  have e : ((v : Int) / 2 ^ j) = ((v / 2 ^ j : Nat) : Int) := by simp
  have h2 := u64_and_nat (v / 2 ^ j) 1 (by omega) (by omega)
  rw [e, show (1 : Int) = ((1 : Nat) : Int) from rfl, h2, Nat.and_one_is_mod, Nat.testBit_eq_decide_div_mod_eq]
  by_cases h : v / 2 ^ j % 2 = 1
  · rw [h]; rfl
  · have h0 : v / 2 ^ j % 2 = 0 := by omega
    rw [h0]; rfl

/-- Columns of counts: what they stand for, and a bound. -/
def ints (C : Nat → Nat) (p : Nat) : Value := .int .i64 (C p : Nat)
def Cols (w : World) (Z T K : Nat) : Prop := Z < w.heap.size ∧ ∃ C : Nat → Nat, Row w Z 0 2304 (ints C) ∧ (∀ p, p < 2304 → C p ≤ K) ∧ tot C 2304 = T
theorem Cols.only {w w' : World} {Z Y T K : Nat} (h : Cols w Y T K) (k : Only Z w w') (hne : Y ≠ Z) : Cols w' Y T K := by
  obtain ⟨hs, C, h1, h2⟩ := h
  exact ⟨by rw [k.size]; exact hs, C, h1.only k hne, h2⟩
theorem Cols.below {w w' : World} {B Y T K : Nat} (h : Cols w Y T K) (k : Below B w w') (hlt : Y < B) : Cols w' Y T K := by
  obtain ⟨hs, C, h1, h2⟩ := h
  exact ⟨Nat.lt_of_lt_of_le hs k.size, C, h1.below k hlt, h2⟩
theorem Cols.up {w : World} {Y T K K' : Nat} (h : Cols w Y T K) (hk : K ≤ K') : Cols w Y T K' := by
  obtain ⟨hs, C, h1, h2, h3⟩ := h
  exact ⟨hs, C, h1, fun p hp => Nat.le_trans (h2 p hp) hk, h3⟩
/-- In the midst of a count: k bits are done. -/
def Stg (w wr : World) (Z T K b k : Nat) (C : Nat → Nat) : Prop :=
  Row wr Z 0 2304 (ints C) ∧ (∀ p, p < 2304 → C p ≤ K + 1) ∧ (∀ p, base b + k ≤ p → p < 2304 → C p ≤ K) ∧ tot C 2304 = T + (sig b % 2 ^ k) * 2 ^ base b ∧ Only Z w wr
theorem Stg.skip {w wr : World} {Z T K b k : Nat} {C : Nat → Nat} (h : Stg w wr Z T K b k C) (hf : (sig b).testBit k = false) : Stg w wr Z T K b (k + 1) C := by
  obtain ⟨h1, h2, h3, h4, h5⟩ := h
  refine ⟨h1, h2, fun p hp => h3 p (by omega), ?_, h5⟩
  rw [h4, mod_bit, hf]; rfl
theorem Stg.add {w wr : World} {Z T K b k q : Nat} {C : Nat → Nat} (h : Stg w wr Z T K b k C) (hf : (sig b).testBit k = true) (eq : q = base b + k) (hq : q < 2304) : Stg w (wr.setCell ⟨Z, q, none⟩ (.int .i64 ((C q : Int) + 1))) Z T K b (k + 1) (bump C q) := by
  obtain ⟨h1, h2, h3, h4, h5⟩ := h
  refine ⟨?_, fun p hp => ?_, fun p hp hp2 => ?_, ?_, h5.set _ _⟩
  · have := h1.set (q := q) (G := ints (bump C q)) (v := .int .i64 ((C q : Int) + 1)) (fun i hi => by
      unfold ints bump
      by_cases e : i = q
      · subst e; rw [if_pos rfl, if_pos rfl]; rfl
      · rw [if_neg e, if_neg e]) hq
    rw [Nat.zero_add] at this
    exact this
  · unfold bump
    by_cases e : p = q
    · rw [if_pos e]; have := h3 p (by omega) hp; omega
    · rw [if_neg e]; exact h2 p hp
  · unfold bump
    rw [if_neg (by omega)]; exact h3 p (by omega) hp2
  · rw [tot_bump C q 2304 hq, h4, mod_bit, hf, if_pos rfl, Nat.add_mul, ← Nat.pow_add, eq, Nat.add_comm k]; omega
theorem Stg.done {w wr : World} {Z T K b : Nat} {C : Nat → Nat} (h : Stg w wr Z T K b 53 C) (hZ : Z < w.heap.size) : Cols wr Z (T + mag b) (K + 1) ∧ Only Z w wr := by
  obtain ⟨h1, h2, h3, h4, h5⟩ := h
  refine ⟨⟨by rw [h5.size]; exact hZ, C, h1, h2, ?_⟩, h5⟩
  rw [h4]
  unfold mag
  rw [Nat.mod_eq_of_lt (by have := sig_lt b; omega)]

/-- What a count does. -/
def Counts (Z T K b : Nat) (w : World) (e : Ending) (w' : World) : Prop := e = .returned (.tuple #[]) ∧ Cols w' Z (T + mag b) (K + 1) ∧ Only Z w w'

set_option maxRecDepth 100000 in
set_option maxHeartbeats 2000000 in
theorem count_any (Z T K b : Nat) (w : World) (hb : b < 18446744073709551616) (hK : K ≤ 100000) (h : Cols w Z T K) :
    Calls Tryd.prog 10 #[.slice (some ⟨Z, 0, none⟩) 2304 2304, .float .f64 b] w (Counts Z T K b w) := by
  obtain ⟨hZ, C, h1, h2, h3⟩ := h
  have HS : Hid (Stg w w Z T K b 0 C) := ⟨h1, fun p hp => by have := h2 p hp; omega, fun p _ hp => h2 p hp, by rw [h3]; simp [Nat.mod_one], Only.refl _ _⟩
  have l0 : base b ≤ 2046 := by have := expo_lt b; unfold base; omega
  have HZ : Hid (Z < w.heap.size) := ⟨hZ⟩
  have hsig := sig_lt b
  have HL : Hid (Calls Tryd.prog 14 #[.float .f64 b] w fun e w' => e = .returned (.tuple #[.int .u64 (sig b : Nat), .int .i64 (base b : Nat)]) ∧ w = w') := ⟨lsBits_any b w hb⟩
  clear h1 h2 h3 hZ hb
  go_enter Tryd.func10, Tryd.ntmps10
  go_wp2_with (go_at_call 14; refine HL.out.mono ?_; rintro e w' ⟨rfl, rfl⟩)
  go_loopw [6] (fun i wr => ∃ (k : Nat) (C : Nat → Nat), k ≤ 53 ∧ i = .int .i64 k ∧ Hid (Stg w wr Z T K b k C)) (fun i _ => 53 - (intOf i).toNat)
  case atStart => exact ⟨0, C, Nat.zero_le _, rfl, HS⟩
  case round =>
    obtain ⟨k, D, hk, rfl, HS⟩ := hrel
    by_cases hlt : k < 53
    · have ht := bit_test (sig b) k (by omega)
      have k0 : (0 : Int) ≤ (k : Int) := by omega
      have k1 : (k : Int) < 64 := by omega
      cases hu : (sig b).testBit k with
      | false =>
        have HS' : Hid (Stg w wr Z T K b (k + 1) D) := ⟨HS.out.skip hu⟩
        rw [hu] at ht
        clear hu HS
        go_wp2
        go_roundw
        case rel => exact ⟨k + 1, D, by omega, by go_num, HS'⟩
        case measure => simp [intOf]; omega
      | true =>
        obtain ⟨q, eq⟩ : ∃ q, q = base b + k := ⟨_, rfl⟩
        have hq : q < 2304 := by omega
        have em : (base b : Int) + (k : Int) = (q : Int) := by omega
        have g0 : (0 : Int) ≤ (q : Int) := by omega
        have g1 : (q : Int) < 2304 := by omega
        have HS' : Hid (Stg w _ Z T K b (k + 1) (bump D q)) := ⟨HS.out.add hu eq hq⟩
        have q1 := (HS.out.1 q hq).1
        have q2 := (HS.out.1 q hq).2
        have q3 := HS.out.2.1 q hq
        rw [Nat.zero_add] at q1 q2
        unfold ints at q1
        have q4 : ((D q : Nat) : Int) ≤ 200000 := by omega
        rw [hu] at ht
        clear hu HS eq
        go_wp2
        go_roundw
        case rel => exact ⟨k + 1, bump D q, by omega, by go_num, HS'⟩
        case measure => simp [intOf]; omega
    · obtain rfl : k = 53 := by omega
      go_wp2
      go_end0
      exact ⟨rfl, HS.out.done HZ.out⟩
end Go.Proofs.Qxb6608777aDoor
