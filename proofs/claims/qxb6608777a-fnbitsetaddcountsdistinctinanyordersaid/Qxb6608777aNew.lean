import Derived.Test.Qxb6608777aAdd
import Derived.Laws.MakeOwn
namespace Go.Proofs.Qxb6608777a
open Go.RowKit

/-- New cells: words, bools. -/
def mkW (n : Nat) : Array Value := madeCells #[.int .u64 0] (n * 1)
def mkB (n : Nat) : Array Value := madeCells #[.bool false] (n * 1)
theorem run_mkW (n : Nat) (hn : n ≤ 65536) (w : World) : (Instr.makeSlice 31 (.int .i64 (n : Int)) (.int .i64 (n : Int))).run Try.prog w = .ok (.slice (some ⟨w.heap.size, 0, none⟩) n n) (w.alloc (.cells (mkW n) 28)) := by
  have h := run_make (P := Try.prog) w 31 28 ((Try.prog.info? 28).get!) (.int .u64 0) Try.underlying31 (by kernel_rfl) (by kernel_rfl) .i64 .i64 (n : Int) (n : Int) (by omega) (by omega)
    (by have e : ((Try.prog.info? 28).get!).bytes = 8 := by kernel_rfl
        rw [e]; omega) (by omega)
  simp only [Int.toNat_natCast] at h
  have e : ((Try.prog.info? 28).get!).size = 1 := by kernel_rfl
  rw [e] at h
  exact h
theorem run_mkB (n : Nat) (hn : n ≤ 65536) (w : World) : (Instr.makeSlice 27 (.int .i64 (n : Int)) (.int .i64 (n : Int))).run Try.prog w = .ok (.slice (some ⟨w.heap.size, 0, none⟩) n n) (w.alloc (.cells (mkB n) 4)) := by
  have h := run_make (P := Try.prog) w 27 4 ((Try.prog.info? 4).get!) (.bool false) Try.underlying27 (by kernel_rfl) (by kernel_rfl) .i64 .i64 (n : Int) (n : Int) (by omega) (by omega)
    (by have e : ((Try.prog.info? 4).get!).bytes = 1 := by kernel_rfl
        rw [e]; omega) (by omega)
  simp only [Int.toNat_natCast] at h
  have e : ((Try.prog.info? 4).get!).size = 1 := by kernel_rfl
  rw [e] at h
  exact h
theorem made_cell (z : Value) (n k : Nat) (h : k < n) : (madeCells #[z] (n * 1))[k]? = some z := by
  unfold madeCells
  rw [Array.getElem?_map, Array.getElem?_eq_getElem (by simp; omega)]
  simp [Nat.mod_one]

/-- Block Z holds the set M, in n words. -/
def BSet (w : World) (Z n : Nat) (M : Nat → Bool) : Prop :=
  Z < w.heap.size ∧ ∀ k, k < n → ∃ v : Nat, v < 18446744073709551616 ∧ w.cell? ⟨Z, k, none⟩ = some (.int .u64 v) ∧ w.frozen? ⟨Z, k, none⟩ = false ∧ ∀ j, v.testBit j = (decide (j < 64) && M (k * 64 + j))
/-- The set with x. -/
def addM (M : Nat → Bool) (x y : Nat) : Bool := M y || y == x
theorem BSet.new (w : World) (n : Nat) : BSet (w.alloc (.cells (mkW n) 28)) w.heap.size n (fun _ => false) := by
  refine ⟨by simp, fun k hk => ⟨0, by omega, ?_, ?_, fun j => by simp⟩⟩
  · have : (w.alloc (.cells (mkW n) 28)).heap[w.heap.size]? = some (.cells (mkW n) 28) := by show (w.heap.push _)[w.heap.size]? = _; simp
    unfold World.cell?
    rw [this]
    exact made_cell _ n k hk
  · simp [go_sem]
theorem BSet.drew {w : World} {Z n : Nat} {M : Nat → Bool} (h : BSet w Z n M) : BSet w.drew Z n M := h
theorem BSet.alloc {w : World} {Z n : Nat} {M : Nat → Bool} (h : BSet w Z n M) (o : Obj) : BSet (w.alloc o) Z n M := by
  refine ⟨by have := h.1; simp; omega, fun k hk => ?_⟩
  obtain ⟨v, hv, hc, hf, hb⟩ := h.2 k hk
  have B := Below.alloc (Below.refl w.heap.size w) (Nat.le_refl _) o
  exact ⟨v, hv, (B.cell (p := ⟨Z, k, none⟩) h.1).trans hc, (B.frozen (p := ⟨Z, k, none⟩) h.1).trans hf, hb⟩
theorem BSet.other {w : World} {Z n Y q : Nat} {M : Nat → Bool} {v : Value} (h : BSet w Z n M) (hne : Y ≠ Z) : BSet ((w.setCell ⟨Y, q, none⟩ v).drew) Z n M := by
  refine ⟨by have := h.1; simpa using this, fun k hk => ?_⟩
  obtain ⟨u, hu, hc, hf, hb⟩ := h.2 k hk
  refine ⟨u, hu, ?_, ?_, hb⟩
  · show (w.setCell ⟨Y, q, none⟩ v).cell? ⟨Z, k, none⟩ = _
    rw [World.cell?_setCell_other _ _ _ _ (fun e => by injection e with e1 e2; exact hne e1)]
    exact hc
  · show (w.setCell ⟨Y, q, none⟩ v).frozen? ⟨Z, k, none⟩ = _
    simpa using hf
theorem BSet.add {w : World} {Z n x v : Nat} {M : Nat → Bool} (h : BSet w Z n M) (hc : w.cell? ⟨Z, x / 64, none⟩ = some (.int .u64 v)) (hv : v < 18446744073709551616) (hb : ∀ j, v.testBit j = (decide (j < 64) && M (x / 64 * 64 + j))) : BSet ((w.setCell ⟨Z, x / 64, none⟩ (.int .u64 (orBit v x : Nat))).drew) Z n (addM M x) := by
  refine ⟨by have := h.1; simpa using this, fun k hk => ?_⟩
  by_cases e : k = x / 64
  · subst e
    obtain ⟨u, hu, hc', hf, hb'⟩ := h.2 _ hk
    refine ⟨orBit v x, orBit_lt x hv, World.cell?_setCell_same _ _ _ hc, ?_, fun j => ?_⟩
    · show (w.setCell ⟨Z, x / 64, none⟩ _).frozen? ⟨Z, x / 64, none⟩ = _
      simpa using hf
    · unfold orBit addM
      rw [Nat.testBit_or, hb j, Nat.testBit_two_pow]
      by_cases h1 : j < 64
      · by_cases h2 : x % 64 = j
        · have : (x / 64 * 64 + j == x) = true := by simp; omega
          simp [h1, h2, this]
        · have : (x / 64 * 64 + j == x) = false := by simp; omega
          simp [h1, h2, this]
      · have : ¬ x % 64 = j := by omega
        simp [h1, this]
  · obtain ⟨u, hu, hc', hf, hb'⟩ := h.2 k hk
    refine ⟨u, hu, ?_, ?_, fun j => ?_⟩
    · show (w.setCell ⟨Z, x / 64, none⟩ _).cell? ⟨Z, k, none⟩ = _
      rw [World.cell?_setCell_other _ _ _ _ (fun e' => by injection e' with e1 e2; exact e e2.symm)]
      exact hc'
    · show (w.setCell ⟨Z, x / 64, none⟩ _).frozen? ⟨Z, k, none⟩ = _
      simpa using hf
    · rw [hb' j]
      unfold addM
      by_cases h1 : j < 64
      · have : (k * 64 + j == x) = false := by simp; omega
        simp [this]
      · simp [h1]

/-- What an addition does. -/
def Adds (Z n x : Nat) (M : Nat → Bool) (w : World) (e : Ending) (w' : World) : Prop :=
  e = .returned (.tuple #[]) ∧ BSet w' Z n (addM M x) ∧ ∃ v, w' = (w.setCell ⟨Z, x / 64, none⟩ v).drew
theorem zadd (Z n c x : Nat) (M : Nat → Bool) (w : World) (hx : x < 65536) (hxn : x / 64 < n) (hn : n ≤ 1024) (h : BSet w Z n M) :
    Calls Try.prog 7 #[.slice (some ⟨Z, 0, none⟩) n c, .int .i64 x] w (Adds Z n x M w) := by
  obtain ⟨v, hv, hc, hf, hb⟩ := h.2 _ hxn
  refine (zadd_any Z n c x v w hx hxn hn hv hc hf).mono ?_
  rintro e w' ⟨rfl, rfl⟩
  exact ⟨rfl, h.add hc hv hb, _, rfl⟩

set_option maxHeartbeats 1000000 in
theorem newBS (s : Nat) (w : World) (hs : s ≤ 65536) : Calls Try.prog 6 #[.int .i64 s] w fun e w' => e = .returned (.slice (some ⟨w.heap.size, 0, none⟩) ((s + 63) / 64) ((s + 63) / 64)) ∧ w' = w.alloc (.cells (mkW ((s + 63) / 64)) 28) := by
  have e1 : ((s : Int) + 63).tdiv 64 = (((s + 63) / 64 : Nat) : Int) := by rw [Int.tdiv_eq_ediv_of_nonneg (by omega)]; omega
  have e2 : ((s : Int) + 63) / 64 = (((s + 63) / 64 : Nat) : Int) := by omega
  have mk := run_mkW ((s + 63) / 64) (by omega)
  generalize (s + 63) / 64 = N at e1 e2 mk ⊢
  go_enter Try.func6, Try.ntmps6
  go_wp2
  go_ret
  exact ⟨rfl, rfl⟩
end Go.Proofs.Qxb6608777a
