import Derived.Test.Qxb6608777aNew
namespace Go.Proofs.Qxb6608777a
open Go.RowKit

/-- How many numbers below N the set holds. -/
def cnt (M : Nat → Bool) : Nat → Nat
  | 0 => 0
  | N + 1 => cnt M N + (if M N = true then 1 else 0)
theorem cnt_le (M : Nat → Bool) : ∀ N, cnt M N ≤ N
  | 0 => Nat.le_refl _
  | N + 1 => by have := cnt_le M N; unfold cnt; split <;> omega
theorem cnt_none : ∀ N, cnt (fun _ => false) N = 0
  | 0 => rfl
  | N + 1 => by unfold cnt; rw [cnt_none N]; simp
theorem cnt_far {M : Nat → Bool} {x : Nat} : ∀ N, N ≤ x → cnt (addM M x) N = cnt M N
  | 0, _ => rfl
  | N + 1, h => by
    have e : addM M x N = M N := by unfold addM; have : (N == x) = false := by simp; omega
                                    simp [this]
    unfold cnt
    rw [cnt_far N (by omega), e]
theorem cnt_add {M : Nat → Bool} {x : Nat} (hx : M x = false) : ∀ N, x < N → cnt (addM M x) N = cnt M N + 1
  | 0, h => absurd h (Nat.not_lt_zero _)
  | N + 1, h => by
    unfold cnt
    by_cases e : x = N
    · subst e
      rw [cnt_far x (Nat.le_refl _)]
      simp [addM, hx]
    · have e' : addM M x N = M N := by unfold addM; have : (N == x) = false := by simp; omega
                                       simp [this]
      rw [cnt_add hx N (by omega), e']
      omega
theorem cnt_more {M : Nat → Bool} {S : Nat} (h : ∀ y, S ≤ y → M y = false) : ∀ d, cnt M (S + d) = cnt M S
  | 0 => rfl
  | d + 1 => by
    show cnt M (S + d) + (if M (S + d) = true then 1 else 0) = _
    rw [cnt_more h d, h (S + d) (by omega)]
    simp
theorem addM_in {M : Nat → Bool} {x : Nat} (hx : M x = true) : addM M x = M := by
  funext y
  unfold addM
  by_cases e : y = x
  · subst e; simp [hx]
  · have : (y == x) = false := by simpa using e
    simp [this]

/-- The first k numbers, as a set. -/
def upTo (X : Nat → Nat) : Nat → Nat → Bool
  | 0 => fun _ => false
  | k + 1 => addM (upTo X k) (X k)
/-- The last d of L numbers, as a set. -/
def dn (X : Nat → Nat) (L : Nat) : Nat → Nat → Bool
  | 0 => fun _ => false
  | d + 1 => addM (dn X L d) (X (L - 1 - d))
theorem upTo_iff (X : Nat → Nat) (y : Nat) : ∀ k, upTo X k y = true ↔ ∃ t, t < k ∧ X t = y
  | 0 => by simp [upTo]
  | k + 1 => by
    unfold upTo addM
    rw [Bool.or_eq_true, upTo_iff X y k]
    constructor
    · rintro (⟨t, h1, h2⟩ | h)
      · exact ⟨t, by omega, h2⟩
      · exact ⟨k, by omega, by simpa using (beq_iff_eq.1 h).symm⟩
    · rintro ⟨t, h1, h2⟩
      by_cases e : t = k
      · right; subst e; simp [h2]
      · left; exact ⟨t, by omega, h2⟩
theorem dn_iff (X : Nat → Nat) (L y : Nat) : ∀ d, d ≤ L → (dn X L d y = true ↔ ∃ t, L - d ≤ t ∧ t < L ∧ X t = y)
  | 0, _ => by simp [dn]; omega
  | d + 1, h => by
    unfold dn addM
    rw [Bool.or_eq_true, dn_iff X L y d (by omega)]
    constructor
    · rintro (⟨t, h1, h2, h3⟩ | h')
      · exact ⟨t, by omega, h2, h3⟩
      · exact ⟨L - 1 - d, by omega, by omega, by simpa using (beq_iff_eq.1 h').symm⟩
    · rintro ⟨t, h1, h2, h3⟩
      by_cases e : t = L - 1 - d
      · right; subst e; simp [h3]
      · left; exact ⟨t, by omega, h2, h3⟩
theorem dn_all (X : Nat → Nat) (L : Nat) : dn X L L = upTo X L := by
  funext y
  apply Bool.eq_iff_iff.2
  rw [dn_iff X L y L (Nat.le_refl _), upTo_iff]
  constructor
  · rintro ⟨t, _, h⟩; exact ⟨t, h⟩
  · rintro ⟨t, h⟩; exact ⟨t, by omega, h⟩
theorem full_add {X : Nat → Nat} {L k : Nat} (h : k < L) : addM (upTo X L) (X k) = upTo X L := addM_in ((upTo_iff X _ L).2 ⟨k, h, rfl⟩)
theorem upTo_far {X : Nat → Nat} {L S : Nat} (h : ∀ t, t < L → X t < S) : ∀ y, S ≤ y → upTo X L y = false := fun y hy => by
  cases e : upTo X L y with
  | false => rfl
  | true =>
    obtain ⟨t, h1, h2⟩ := (upTo_iff X y L).1 e
    have := h t h1
    omega
theorem cnt_full {X : Nat → Nat} {L S N : Nat} (h : ∀ t, t < L → X t < S) (hN : S ≤ N) : cnt (upTo X L) N = cnt (upTo X L) S := by
  have := cnt_more (upTo_far h) (N - S)
  rwa [show S + (N - S) = N by omega] at this

/-- The two sets, and what was there. -/
structure Stage (w wr : World) (Z1 Z2 n : Nat) (M1 M2 : Nat → Bool) : Prop where
  one : BSet wr Z1 n M1
  two : BSet wr Z2 n M2
  bel : Below w.heap.size w wr
  ne : Z1 ≠ Z2
  lo1 : w.heap.size ≤ Z1
  lo2 : w.heap.size ≤ Z2
theorem Stage.add1 {w wr : World} {Z1 Z2 n x : Nat} {M1 M2 : Nat → Bool} (h : Stage w wr Z1 Z2 n M1 M2) {v : Value} (hs : BSet ((wr.setCell ⟨Z1, x / 64, none⟩ v).drew) Z1 n (addM M1 x)) : Stage w ((wr.setCell ⟨Z1, x / 64, none⟩ v).drew) Z1 Z2 n (addM M1 x) M2 :=
  ⟨hs, h.two.other h.ne, (h.bel.setCell h.lo1 v).drew, h.ne, h.lo1, h.lo2⟩
theorem Stage.add2 {w wr : World} {Z1 Z2 n x : Nat} {M1 M2 : Nat → Bool} (h : Stage w wr Z1 Z2 n M1 M2) {v : Value} (hs : BSet ((wr.setCell ⟨Z2, x / 64, none⟩ v).drew) Z2 n (addM M2 x)) : Stage w ((wr.setCell ⟨Z2, x / 64, none⟩ v).drew) Z1 Z2 n M1 (addM M2 x) :=
  ⟨h.one.other h.ne.symm, hs, (h.bel.setCell h.lo2 v).drew, h.ne, h.lo1, h.lo2⟩
theorem Stage.new (w : World) (n : Nat) : Stage w ((w.alloc (.cells (mkW n) 28)).alloc (.cells (mkW n) 28)) w.heap.size (w.heap.size + 1) n (fun _ => false) (fun _ => false) :=
  ⟨(BSet.new w n).alloc _, by have := BSet.new (w.alloc (.cells (mkW n) 28)) n; simpa using this, ((Below.refl w.heap.size w).alloc (Nat.le_refl _) _).alloc (by simp) _, by omega, Nat.le_refl _, by omega⟩

/-- Which numbers have been seen. -/
def Seen (w : World) (Z S : Nat) (M : Nat → Bool) : Prop := Z < w.heap.size ∧ ∀ y, y < S → w.cell? ⟨Z, y, none⟩ = some (.bool (M y)) ∧ w.frozen? ⟨Z, y, none⟩ = false
theorem Seen.new (w : World) (S : Nat) : Seen (w.alloc (.cells (mkB S) 4)) w.heap.size S (fun _ => false) := by
  refine ⟨by simp, fun y hy => ⟨?_, by simp [go_sem]⟩⟩
  have : (w.alloc (.cells (mkB S) 4)).heap[w.heap.size]? = some (.cells (mkB S) 4) := by show (w.heap.push _)[w.heap.size]? = _; simp
  unfold World.cell?
  rw [this]
  exact made_cell _ S y hy
theorem Seen.add {w : World} {Z S x : Nat} {M : Nat → Bool} (h : Seen w Z S M) (hx : x < S) : Seen (w.setCell ⟨Z, x, none⟩ (.bool true)) Z S (addM M x) := by
  refine ⟨by have := h.1; simpa using this, fun y hy => ⟨?_, by have := (h.2 y hy).2; simpa using this⟩⟩
  by_cases e : y = x
  · subst e
    rw [World.cell?_setCell_same _ _ _ (h.2 y hx).1]
    simp [addM]
  · rw [World.cell?_setCell_other _ _ _ _ (fun e' => by injection e' with e1 e2; exact e e2.symm), (h.2 y hy).1]
    have : (y == x) = false := by simpa using e
    simp [addM, this]
theorem Stage.see {w wr : World} {Z1 Z2 n Y x : Nat} {M1 M2 : Nat → Bool} (h : Stage w wr Z1 Z2 n M1 M2) (v : Value) (h1 : Z1 < Y) (h2 : Z2 < Y) : Stage w (wr.setCell ⟨Y, x, none⟩ v) Z1 Z2 n M1 M2 :=
  ⟨BSet.other (v := v) (q := x) h.one (by omega), BSet.other (v := v) (q := x) h.two (by omega), h.bel.setCell (by have := h.lo1; show w.heap.size ≤ Y; omega) v, h.ne, h.lo1, h.lo2⟩
theorem Stage.alloc {w wr : World} {Z1 Z2 n : Nat} {M1 M2 : Nat → Bool} (h : Stage w wr Z1 Z2 n M1 M2) (o : Obj) : Stage w (wr.alloc o) Z1 Z2 n M1 M2 :=
  ⟨h.one.alloc o, h.two.alloc o, h.bel.alloc h.bel.size o, h.ne, h.lo1, h.lo2⟩
end Go.Proofs.Qxb6608777a
