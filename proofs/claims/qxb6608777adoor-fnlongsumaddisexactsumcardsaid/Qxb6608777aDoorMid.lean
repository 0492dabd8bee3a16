import Derived.Test.Qxb6608777aDoorPack
import Derived.Laws.Externs
namespace Go.Proofs.Qxb6608777aDoor
open Go.RowKit

theorem add64_run (x y c : Nat) (hc : c ≤ 1) (w : World) : (callFunc 17 #[.int .u64 (x : Int), .int .u64 (y : Int), .int .u64 (c : Int)]).run Tryd.prog w = .ok (.value (.tuple #[.int .u64 ((x + y + c) % 18446744073709551616 : Nat), .int .u64 ((x + y + c) / 18446744073709551616 : Nat)])) w := by
  rw [run_callFunc_extern Tryd.func17 (by kernel_rfl) (by kernel_rfl) (by kernel_rfl) (e := add64Entry) (by kernel_rfl), run_add64 (x : Int) (y : Int) (c : Int) (by omega) (by omega) (by omega) (by omega)]
  simp only [Result.andThen]
  rfl

/-- Words of the sum up to j, of the number before from j on. -/
def mix (P S j k : Nat) : Value := if k < j then wds S k else wds P k
theorem mix_at (P S j : Nat) : mix P S j j = wds P j := by unfold mix; rw [if_neg (by omega)]
/-- A long sum. -/
structure LS (w : World) (Z P Q lo hi : Nat) : Prop where
  size : Z < w.heap.size
  pos : Row w Z 0 36 (wds P)
  neg : Row w Z 36 36 (wds Q)
  low : w.cell? ⟨Z, 72, none⟩ = some (.int .i64 (lo : Nat))
  lowf : w.frozen? ⟨Z, 72, none⟩ = false
  high : w.cell? ⟨Z, 73, none⟩ = some (.int .i64 (hi : Nat))
  highf : w.frozen? ⟨Z, 73, none⟩ = false
/-- In the midst of an addition: o and o2 are where the turned and the other words begin. -/
structure Mid (w wr : World) (Z o o2 P S j Q lo hi : Nat) : Prop where
  sides : (o = 0 ∧ o2 = 36) ∨ (o = 36 ∧ o2 = 0)
  row : Row wr Z o 36 (mix P S j)
  other : Row wr Z o2 36 (wds Q)
  low : wr.cell? ⟨Z, 72, none⟩ = some (.int .i64 (lo : Nat))
  lowf : wr.frozen? ⟨Z, 72, none⟩ = false
  high : wr.cell? ⟨Z, 73, none⟩ = some (.int .i64 (hi : Nat))
  highf : wr.frozen? ⟨Z, 73, none⟩ = false
  only : Only Z w wr
theorem Mid.drew {w wr : World} {Z o o2 P S j Q lo hi : Nat} (h : Mid w wr Z o o2 P S j Q lo hi) : Mid w wr.drew Z o o2 P S j Q lo hi :=
  ⟨h.sides, h.row, h.other, h.low, h.lowf, h.high, h.highf, h.only.drew⟩
theorem Mid.step {w wr : World} {Z o o2 P S j Q lo hi q v : Nat} (h : Mid w wr Z o o2 P S j Q lo hi) (hj : j < 36) (hq : q = o + j) (hv : v = wd S j) : Mid w ((wr.setCell ⟨Z, q, none⟩ (.int .u64 (v : Nat))).drew) Z o o2 P S (j + 1) Q lo hi := by
  subst hq hv
  have hs := h.sides
  refine Mid.drew ⟨hs, h.row.set (q := j) (fun k hk => ?_) hj, h.other.apart (by omega), ?_, by rw [World.frozen?_setCell]; exact h.lowf, ?_, by rw [World.frozen?_setCell]; exact h.highf, h.only.set _ _⟩
  · unfold mix
    by_cases e : k = j
    · subst e; rw [if_pos (by omega), if_pos rfl]; rfl
    · by_cases e2 : k < j
      · rw [if_pos (by omega), if_neg e, if_pos e2]
      · rw [if_neg (by omega), if_neg e, if_neg e2]
  · rw [World.cell?_setCell_other _ _ _ _ (fun e => by injection e with e1 e2; omega)]; exact h.low
  · rw [World.cell?_setCell_other _ _ _ _ (fun e => by injection e with e1 e2; omega)]; exact h.high
theorem Mid.at {w wr : World} {Z o o2 P S j Q lo hi q : Nat} (h : Mid w wr Z o o2 P S j Q lo hi) (hj : j < 36) (hq : q = o + j) : wr.cell? ⟨Z, q, none⟩ = some (.int .u64 (wd P j : Nat)) ∧ wr.frozen? ⟨Z, q, none⟩ = false := by
  subst hq
  have := h.row j hj
  rw [mix_at] at this
  exact this
theorem LS.mid0 {w : World} {Z P Q lo hi S q : Nat} (h : LS w Z P Q lo hi) (hq : ∀ j, j < q → wd S j = wd P j) : Mid w w Z 0 36 P S q Q lo hi :=
  ⟨.inl ⟨rfl, rfl⟩, h.pos.congr (fun k _ => by
    unfold mix
    split
    · unfold wds; rw [hq k (by assumption)]
    · rfl), h.neg, h.low, h.lowf, h.high, h.highf, Only.refl _ _⟩
theorem LS.mid1 {w : World} {Z P Q lo hi S q : Nat} (h : LS w Z P Q lo hi) (hq : ∀ j, j < q → wd S j = wd Q j) : Mid w w Z 36 0 Q S q P lo hi :=
  ⟨.inr ⟨rfl, rfl⟩, h.neg.congr (fun k _ => by
    unfold mix
    split
    · unfold wds; rw [hq k (by assumption)]
    · rfl), h.pos, h.low, h.lowf, h.high, h.highf, Only.refl _ _⟩
/-- The row behind the last carry. -/
theorem Mid.whole {w wr : World} {Z o o2 P S j Q lo hi : Nat} (h : Mid w wr Z o o2 P S j Q lo hi) (ha : ∀ k, j ≤ k → wd S k = wd P k) : Row wr Z o 36 (wds S) :=
  h.row.congr (fun k _ => by
    unfold mix
    by_cases e : k < j
    · rw [if_pos e]
    · rw [if_neg e]; unfold wds; rw [ha k (by omega)])

/-- The new low. -/
def lowOf (lo hi q : Nat) : Nat := if hi = 0 ∨ q < lo then q else lo
end Go.Proofs.Qxb6608777aDoor
