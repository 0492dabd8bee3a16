import Derived.Test.Qxb6608702aCtc
import Derived.Laws.MakeOwn
import Derived.Laws.IdiomCopy
namespace Go.Proofs.Qxb6608702a
open Go.RowKit

theorem Bnx {W a b : World} (h : Below W.heap.size W a) (k : Below a.heap.size a b) : Below W.heap.size W b := h.trans (k.mono h.size)
theorem Bal {W a : World} (h : Below W.heap.size W a) (o : Obj) : Below W.heap.size W (a.alloc o) := h.alloc h.size o
theorem Bdrew {W a : World} (h : Below W.heap.size W a) (n : Nat) : Below W.heap.size W (a.drewN n) := below_drewN h n

/-- The cells of a new row of bytes. -/
def mk1 (n : Nat) : Array Value := madeCells #[.int .u8 0] (n * 1)
theorem run_mk1 (n : Nat) (hn : n ≤ 65536) (w : World) : (Instr.makeSlice 22 (.int .i64 (n : Int)) (.int .i64 (n : Int))).run Try.prog w = .ok (.slice (some ⟨w.heap.size, 0, none⟩) n n) (w.alloc (.cells (mk1 n) 5)) := by
  have h := run_make (P := Try.prog) w 22 5 ((Try.prog.info? 5).get!) (.int .u8 0) Try.underlying22 (by kernel_rfl) (by kernel_rfl) .i64 .i64 (n : Int) (n : Int) (by omega) (by omega)
    (by have e : ((Try.prog.info? 5).get!).bytes = 1 := by kernel_rfl
        rw [e]; omega) (by omega)
  simp only [Int.toNat_natCast] at h
  have e : ((Try.prog.info? 5).get!).size = 1 := by kernel_rfl
  rw [e] at h
  exact h
theorem mk1_cell (n o : Nat) (h : o < n) : ∃ v, (mk1 n)[o]? = some v := ⟨_, Array.getElem?_eq_getElem (by unfold mk1; rw [size_madeCells]; omega)⟩

/-- The bytes as cells. -/
def byteCells (A : Nat → Int) (n : Nat) : List Value := (List.range n).map fun i => Value.int .u8 (A i)

theorem setCells_below (b : Nat) {B : Nat} (hb : B ≤ b) : ∀ (vs : List Value) (o : Nat) (w : World), Below B w (w.setCells b o vs)
  | [], _, _ => Below.refl _ _
  | v :: r, o, w => ((Below.refl B w).setCell (p := ⟨b, o, none⟩) hb v).trans (setCells_below b hb r (o + 1) _)

/-- 'copy' of n bytes into a new row of n bytes. -/
theorem copy_run (x : Addr) (n cap : Nat) (A : Nat → Int) (w : World) (hx : ∀ i, i < n → w.cell? (x.add i) = some (.int .u8 (A i))) (hxb : 0 < n → x.block < w.heap.size) :
    ∃ wc : World, (∀ ty, (Builtin.copy_ #[22, 22] ty #[.slice (some ⟨w.heap.size, 0, none⟩) n n, .slice (some x) n cap]).run Try.prog (w.alloc (.cells (mk1 n) 5)) = .ok (goInt n) wc) ∧
      Below w.heap.size w wc ∧ Row wc (.slice (some ⟨w.heap.size, 0, none⟩) n n) n A := by
  have hB1 : Below w.heap.size w (w.alloc (.cells (mk1 n) 5)) := Bal (Below.refl _ _) _
  have hlen : (byteCells A n).length = n := by simp [byteCells]
  have hc : ∀ j, j < (byteCells A n).length → ((w.alloc (.cells (mk1 n) 5)).cell? ⟨w.heap.size, 0 + j, none⟩).isSome = true := fun j hj => by
    rw [World.cell?_alloc_at (mk1 n) 5 w.heap.size (0 + j) rfl]
    obtain ⟨v, hv⟩ := mk1_cell n (0 + j) (by omega)
    rw [hv]; rfl
  have hB2 : Below w.heap.size (w.alloc (.cells (mk1 n) 5)) ((w.alloc (.cells (mk1 n) 5)).setCells w.heap.size 0 (byteCells A n)) := setCells_below w.heap.size (Nat.le_refl _) _ _ _
  refine ⟨(w.alloc (.cells (mk1 n) 5)).setCells w.heap.size 0 (byteCells A n), fun ty => ?_, hB1.trans hB2, Or.inr ⟨w.heap.size, 0, n, rfl, ?_, fun i hi => ?_⟩⟩
  · have := run_copy_cells (P := Try.prog) (w.alloc (.cells (mk1 n) 5)) 22 22 ty 5 w.heap.size 0 n n x n cap (byteCells A n) Try.underlying22 (by kernel_rfl) (by rw [hlen]; simp) (fun j v hv => ?_) hc (fun j hj => World.frozen?_alloc_at (mk1 n) 5 w.heap.size (0 + j) rfl) (fun v hv => ?_)
    · rw [hlen] at this; exact this
    · have hj : j < n := by
        rcases Nat.lt_or_ge j n with h | h
        · exact h
        · rw [List.getElem?_eq_none (by rw [hlen]; exact h)] at hv; cases hv
      have e : v = .int .u8 (A j) := by simp [byteCells, hj] at hv; exact hv.symm
      rw [e]
      exact (hB1.cell (p := x.add j) (by have := hxb (by omega); unfold Addr.add; split <;> exact this)).trans (hx j hj)
    · simp [byteCells] at hv
      obtain ⟨i, _, rfl⟩ := hv
      rfl
  · have := hB2.size; simp at this; omega
  · have := World.cell?_setCells_in w.heap.size (byteCells A n) 0 (w.alloc (.cells (mk1 n) 5)) hc i (by omega)
    rw [this]
    simp [byteCells]

theorem Row.below {w w' : World} {v : Value} {n : Nat} {A : Nat → Int} (h : Row w v n A) {B : Nat} (hB : Below B w w') (hlt : w.heap.size ≤ B) : Row w' v n A := by
  rcases h with h | ⟨b, o, c, h1, h2, h3⟩
  · exact Or.inl h
  · exact Or.inr ⟨b, o, c, h1, Nat.lt_of_lt_of_le h2 hB.size, fun i hi => (hB.cell (p := ⟨b, _, none⟩) (Nat.lt_of_lt_of_le h2 hlt)).trans (h3 i hi)⟩
theorem Row.drewN {w : World} {v : Value} {n : Nat} {A : Nat → Int} (h : Row w v n A) (q : Nat) : Row (w.drewN q) v n A := h.below (below_drewN (Below.refl w.heap.size w) q) (Nat.le_refl _)
end Go.Proofs.Qxb6608702a
