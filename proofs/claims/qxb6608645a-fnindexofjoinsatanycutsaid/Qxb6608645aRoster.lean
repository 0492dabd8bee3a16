import Derived.Test.Qxb6608645aNames
import Derived.Deep.RegionHeld3
import Derived.Laws.MakeOwn
import Derived.Laws.IdiomCopy
import Derived.WalkSmall
namespace Go.Proofs.Qxb6608645a
open Go.RowKit

theorem Bnx {W a b : World} (h : Below W.heap.size W a) (k : Below a.heap.size a b) : Below W.heap.size W b := h.trans (k.mono h.size)
theorem Bal {W a : World} (h : Below W.heap.size W a) (o : Obj) : Below W.heap.size W (a.alloc o) := h.alloc h.size o
theorem Bdrew {W a : World} (h : Below W.heap.size W a) (n : Nat) : Below W.heap.size W (a.drewN n) := below_drewN h n

/-- The cells of a new row of participants. -/
def mk10 (n : Nat) : Array Value := madeCells #[.string ⟨#[]⟩, .string ⟨#[]⟩, .slice none 0 0, .pointer none, .string ⟨#[]⟩, .string ⟨#[]⟩, .string ⟨#[]⟩, .string ⟨#[]⟩, .string ⟨#[]⟩, .int .i64 0] (n * 10)
theorem run_mk10 (n : Nat) (hn : n ≤ 65537) (w : World) : (Instr.makeSlice 35 (.int .i64 (n : Int)) (.int .i64 (n : Int))).run Try.prog w = .ok (.slice (some ⟨w.heap.size, 0, none⟩) n n) (w.alloc (.cells (mk10 n) 41)) := by
  have h := run_make (P := Try.prog) w 35 41 ((Try.prog.info? 41).get!) (.agg #[.string ⟨#[]⟩, .string ⟨#[]⟩, .slice none 0 0, .pointer none, .string ⟨#[]⟩, .string ⟨#[]⟩, .string ⟨#[]⟩, .string ⟨#[]⟩, .string ⟨#[]⟩, .int .i64 0]) Try.underlying35 (by kernel_rfl) (by kernel_rfl) .i64 .i64 (n : Int) (n : Int) (by omega) (by omega)
    (by have e : ((Try.prog.info? 41).get!).bytes = 152 := by kernel_rfl
        rw [e]; omega) (by omega)
  simp only [Int.toNat_natCast] at h
  have e : ((Try.prog.info? 41).get!).size = 10 := by kernel_rfl
  rw [e] at h
  exact h
theorem mk10_cell (n o : Nat) (h : o < n * 10) : ∃ v, (mk10 n)[o]? = some v := ⟨_, Array.getElem?_eq_getElem (by unfold mk10; rw [size_madeCells]; exact h)⟩

/-- The roster under construction: the debate in block D, its participants in block D + 1, of which the first k bear their names. -/
structure Ros (w : World) (n k : Nat) (S : Nat → ByteArray) (wr : World) : Prop where
  below : Below w.heap.size w wr
  room : w.heap.size + 1 < wr.heap.size
  field : wr.cell? ⟨w.heap.size, 10, none⟩ = some (.slice (some ⟨w.heap.size + 1, 0, none⟩) n n)
  cell : ∀ o, o < n * 10 → ∃ v, wr.cell? ⟨w.heap.size + 1, o, none⟩ = some v
  free : ∀ o, wr.frozen? ⟨w.heap.size + 1, o, none⟩ = false
  name : ∀ i, i < k → wr.cell? ⟨w.heap.size + 1, i * 10, none⟩ = some (.string (S i))

theorem Ros.start (w : World) (n : Nat) (S : Nat → ByteArray) (cs : Array Value) (hc : cs[10]? = some (.slice (some ⟨w.heap.size + 1, 0, none⟩) n n)) : Ros w n 0 S ((w.alloc (.cells cs 38)).alloc (.cells (mk10 n) 41)) := by
  have e1 : ((w.alloc (.cells cs 38)).heap.size) = w.heap.size + 1 := by simp
  refine ⟨Bal (Bal (Below.refl _ _) _) _, by simp, ?_, fun o ho => ?_, fun o => World.frozen?_alloc_at (mk10 n) 41 (w.heap.size + 1) o e1.symm, fun i hi => absurd hi (Nat.not_lt_zero i)⟩
  · rw [World.cell?_alloc_past _ _ _ (by simp), World.cell?_alloc_at cs 38 w.heap.size 10 rfl]; exact hc
  · rw [World.cell?_alloc_at (mk10 n) 41 (w.heap.size + 1) o e1.symm]; exact mk10_cell n o ho
theorem Ros.drew {w : World} {n k : Nat} {S : Nat → ByteArray} {wr : World} (h : Ros w n k S wr) : Ros w n k S wr.drew := ⟨h.below.drew, h.room, h.field, h.cell, h.free, h.name⟩
theorem Ros.put {w : World} {n k : Nat} {S : Nat → ByteArray} {wr : World} (h : Ros w n k S wr) (hk : k < n) : Ros w n (k + 1) S (wr.setCell ⟨w.heap.size + 1, k * 10, none⟩ (.string (S k))) := by
  have hout : ∀ b o, (b = w.heap.size + 1 → o ≠ k * 10) → (wr.setCell ⟨w.heap.size + 1, k * 10, none⟩ (.string (S k))).cell? ⟨b, o, none⟩ = wr.cell? ⟨b, o, none⟩ := fun b o hne =>
    World.cell?_setCell_other _ _ _ _ (fun e => by injection e with e1 e2; exact hne e1.symm e2.symm)
  have hin : (wr.setCell ⟨w.heap.size + 1, k * 10, none⟩ (.string (S k))).cell? ⟨w.heap.size + 1, k * 10, none⟩ = some (.string (S k)) := by
    obtain ⟨v, hv⟩ := h.cell (k * 10) (by omega)
    exact World.cell?_setCell_same _ _ _ hv
  refine ⟨h.below.setCell (by simp) _, by simpa using h.room, (hout _ _ (fun e => by omega)).trans h.field, fun o ho => ?_, fun o => by rw [World.frozen?_setCell]; exact h.free o, fun i hi => ?_⟩
  · by_cases e : o = k * 10
    · subst e; exact ⟨_, hin⟩
    · obtain ⟨v, hv⟩ := h.cell o ho
      exact ⟨v, (hout _ _ (fun _ => e)).trans hv⟩
  · rcases Nat.lt_succ_iff_lt_or_eq.1 hi with hlt | rfl
    · exact (hout _ _ (fun _ => by omega)).trans (h.name i hlt)
    · exact hin

set_option maxHeartbeats 1000000 in
theorem roster_some (b off n cap : Nat) (S : Nat → ByteArray) (w : World) (hn : n ≤ 65537) (hI : ∀ i, i < n → w.cell? ⟨b, off + i, none⟩ = some (.string (S i))) (hb : b < w.heap.size) :
    Calls Try.prog 7 #[.slice (some ⟨b, off, none⟩) n cap] w fun e w' => e = .returned (.pointer (some ⟨w.heap.size, 0, none⟩)) ∧ Ros w n n S w' := by
  have hmk := run_mk10 n hn
  have hnil := fun (wx : World) => run_neq_slice_nil_any (P := Try.prog) wx 22 9 (some ⟨b, off, none⟩) n cap 0 0 Try.underlying22
  go_enter Try.func7, Try.ntmps7
  go_wp2
  go_loopw [4] (fun i wr => ∃ k : Nat, k ≤ n ∧ i = .int .i64 k ∧ Ros w n k S wr) (fun i _ => n - (intOf i).toNat)
  case atStart => exact ⟨0, Nat.zero_le _, rfl, Ros.start w n S _ rfl⟩
  case round =>
    obtain ⟨k, hk, rfl, hT⟩ := hrel
    by_cases hlt : k < n
    · have c0 := (hT.below.cell (p := ⟨b, off + k, none⟩) hb).trans (hI k hlt)
      have c1 := hT.field
      obtain ⟨v, c2⟩ := hT.cell (k * 10) (by omega)
      have f0 := hT.free (k * 10)
      have g0 : (0 : Int) ≤ (k : Int) := by omega
      have g1 : (k : Int) < (n : Int) := by omega
      go_wp2
      go_region_held3 (fun w' => w'.cell? ⟨b, off + k, none⟩ = some (.string (S k)) ∧ w'.cell? ⟨w.heap.size, 10, none⟩ = some (.slice (some ⟨w.heap.size + 1, 0, none⟩) n n))
        (simp [go_sem, *])
        (fail)
      go_wp2
      go_roundw
      case rel => exact ⟨k + 1, by omega, by go_num, (hT.put hlt).drew⟩
      case measure => simp [intOf]; omega
    · go_wp2
      go_ret
      obtain rfl : k = n := by omega
      exact ⟨rfl, hT⟩

/-- A debate in block D whose n participants bear the names S. -/
def Rost (w : World) (D n : Nat) (S : Nat → ByteArray) : Prop :=
  D < w.heap.size ∧ ∃ pa cap, w.cell? ⟨D, 10, none⟩ = some (.slice pa n cap) ∧
    (0 < n → ∃ pb, pa = some ⟨pb, 0, none⟩ ∧ pb < w.heap.size ∧ (∀ o, o < n * 10 → ∃ v, w.cell? ⟨pb, o, none⟩ = some v) ∧ ∀ i, i < n → w.cell? ⟨pb, i * 10, none⟩ = some (.string (S i)))

/-- It returns such a debate; of what was there nothing has turned. -/
def Gives (n : Nat) (S : Nat → ByteArray) (w : World) (e : Ending) (w' : World) : Prop := ∃ D, e = .returned (.pointer (some ⟨D, 0, none⟩)) ∧ Rost w' D n S ∧ Below w.heap.size w w'

theorem rosterS (b off n cap : Nat) (S : Nat → ByteArray) (w : World) (hn : n ≤ 65537) (hI : ∀ i, i < n → w.cell? ⟨b, off + i, none⟩ = some (.string (S i))) (hb : b < w.heap.size) :
    Calls Try.prog 7 #[.slice (some ⟨b, off, none⟩) n cap] w (Gives n S w) := by
  refine (roster_some b off n cap S w hn hI hb).mono ?_
  rintro e w' ⟨rfl, h⟩
  exact ⟨w.heap.size, rfl, ⟨by have := h.room; omega, _, _, h.field, fun _ => ⟨w.heap.size + 1, rfl, h.room, h.cell, h.name⟩⟩, h.below⟩

set_option maxHeartbeats 1000000 in
theorem rosterZ (x : Addr) (cap : Nat) (S : Nat → ByteArray) (w : World) : Calls Try.prog 7 #[.slice (some x) 0 cap] w (Gives 0 S w) := by
  have hmk : ∀ w : World, (Instr.makeSlice 35 (.int .i64 0) (.int .i64 0)).run Try.prog w = .ok (.slice (some ⟨w.heap.size, 0, none⟩) 0 0) (w.alloc (.cells (mk10 0) 41)) := fun w => run_mk10 0 (by omega) w
  have hnil := fun (wx : World) => run_neq_slice_nil_any (P := Try.prog) wx 22 9 (some x) 0 cap 0 0 Try.underlying22
  go_enter Try.func7, Try.ntmps7
  go_wp2
  refine wp_loop_rounds 1 ?_
  rw [rounds_succ]
  go_wp2
  go_ret
  exact ⟨w.heap.size, rfl, ⟨by simp; omega, some ⟨w.heap.size + 1, 0, none⟩, 0, by simp [go_sem], fun h => absurd h (Nat.lt_irrefl 0)⟩, Bal (Bal (Below.refl _ _) _) _⟩

set_option maxHeartbeats 1000000 in
theorem rosterN (S : Nat → ByteArray) (w : World) : Calls Try.prog 7 #[.slice none 0 0] w (Gives 0 S w) := by
  have hnil := fun (wx : World) => run_neq_slice_nil_any (P := Try.prog) wx 22 9 none 0 0 0 0 Try.underlying22
  go_enter Try.func7, Try.ntmps7
  go_wp2
  go_ret
  exact ⟨w.heap.size, rfl, ⟨by simp, none, 0, by simp [go_sem], fun h => absurd h (Nat.lt_irrefl 0)⟩, Bal (Below.refl _ _) _⟩
end Go.Proofs.Qxb6608645a
