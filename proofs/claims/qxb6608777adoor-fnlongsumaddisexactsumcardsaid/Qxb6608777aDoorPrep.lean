import Derived.Test.Qxb6608777aDoorWok
import Derived.Laws.MakeOwn
import Derived.ChangeKeysEq
namespace Go.Proofs.Qxb6608777aDoor
open Go.RowKit

/-- New columns. -/
def mkI : Array Value := madeCells #[.int .i64 0] (2304 * 1)
theorem run_mkI (w : World) : (Instr.makeSlice 33 (.int .i64 2304) (.int .i64 2304)).run Tryd.prog w = .ok (.slice (some ⟨w.heap.size, 0, none⟩) 2304 2304) (w.alloc (.cells mkI 3)) := by
  have h := run_make (P := Tryd.prog) w 33 3 ((Tryd.prog.info? 3).get!) (.int .i64 0) Tryd.underlying33 (by kernel_rfl) (by kernel_rfl) .i64 .i64 2304 2304 (by omega) (by omega)
    (by have e : ((Tryd.prog.info? 3).get!).bytes = 8 := by kernel_rfl
        rw [e]; omega) (by omega)
  have e : ((Tryd.prog.info? 3).get!).size = 1 := by kernel_rfl
  rw [e] at h
  exact h
theorem made_cell (z : Value) (n k : Nat) (h : k < n) : (madeCells #[z] (n * 1))[k]? = some z := by
  unfold madeCells
  rw [Array.getElem?_map, Array.getElem?_eq_getElem (by simp; omega)]
  simp [Nat.mod_one]
theorem tot_zero : ∀ n, tot (fun _ => 0) n = 0
  | 0 => rfl
  | n + 1 => by show tot (fun _ => 0) n + 0 * 2 ^ n = 0; rw [tot_zero n, Nat.zero_mul]
theorem Cols.new (w : World) : Cols (w.alloc (.cells mkI 3)) w.heap.size 0 0 :=
  ⟨by simp, fun _ => 0, Row.new w mkI 3 2304 _ (fun k hk => made_cell _ 2304 k hk), fun _ _ => Nat.le_refl _, tot_zero _⟩

theorem eqItems_same (P d : Nat) (w : World) : ∀ is : List Nat, (∀ i ∈ is, i < 36) → (Op.eqItems (d + 1) 29 1 (ws P).toArray (ws P).toArray is).run Tryd.prog w = .ok true w
  | [], _ => by simp [Op.eqItems]
  | i :: is, h => by
    have hi := h i (by simp)
    have px : (part 29 (ws P).toArray (i * 1)).run Tryd.prog w = .ok (wds P i) w := by
      have e := ws_at P i hi
      rw [Nat.mul_one]
      unfold part
      rw [e]
      simp [isAgg, run_underlying Tryd.underlying29]
    have pe : (Op.equalIn (d + 1) 29 (wds P i) (wds P i)).run Tryd.prog w = .ok true w := by
      unfold wds
      rw [run_equalIn_int w d 29 .u64 .u64 _ _ Tryd.underlying29]
      simp
    simp only [Op.eqItems, Sem.run_bind, px, pe, Result.andThen_ok]
    simpa using eqItems_same P d w is (fun j hj => h j (by simp [hj]))
theorem ws_eq (P : Nat) (w : World) : (Op.equalIn 10000 30 (.agg (ws P).toArray) (.agg (ws P).toArray)).run Tryd.prog w = .ok true w := by
  have h := run_equalIn_array (P := Tryd.prog) w 9999 (t := 30) (e := 29) (n := 36) (i := (Tryd.prog.info? 29).get!) (ws P).toArray (ws P).toArray und30 (by kernel_rfl)
  rw [show Tryd.prog.cellsOf 29 = 1 by kernel_rfl] at h
  exact h.trans (eqItems_same P 9998 w _ (fun i hi => List.mem_range.1 hi))
theorem ws_neq (P : Nat) (w : World) : (binOp .neq 30 (.agg (ws P).toArray) (.agg (ws P).toArray)).run Tryd.prog w = .ok (.bool false) w := by
  rw [run_neq_struct, ws_eq]; rfl

set_option maxHeartbeats 1000000 in
theorem bytes_yes (x : Option Addr) (L c : Nat) (w : World) (hL : L ≤ 65536) :
    Calls Tryd.prog 4 #[.slice x L c] w fun e w' => e = .returned (.bool true) ∧ w = w' := by
  go_enter Tryd.func4, Tryd.ntmps4
  go_wp2
  go_ret
  exact ⟨rfl, rfl⟩

set_option maxRecDepth 100000 in
set_option maxHeartbeats 4000000 in
theorem law_early (x : Option Addr) (L c : Nat) (w : World) (hL : L ≤ maxLen) (h : 65536 < L) : Calls Tryd.prog 3 #[.slice x L c] w (Yes w) := by
  unfold maxLen at hL
  by_cases h1 : 1048576 < L
  · go_enter Tryd.func3, Tryd.ntmps3
    go_wp2
    go_ret
    exact ⟨rfl, Below.refl _ _⟩
  · go_enter Tryd.func3, Tryd.ntmps3
    go_wp2
    go_ret
    exact ⟨rfl, Below.refl _ _⟩

set_option maxRecDepth 100000 in
set_option maxHeartbeats 4000000 in
/-- Number b is the first that is not finite. -/
theorem law_bad (x : Option Addr) (L c b : Nat) (X : Nat → Nat) (w : World) (hL : L ≤ 65536) (hX : Xs w x L X) (hb : b < L) (hbad : expo (X b) = 2047) (hok : ∀ t, t < b → expo (X t) ≠ 2047) :
    Calls Tryd.prog 3 #[.slice x L c] w (Yes w) := by
  have HX : Hid (Xs w x L X) := ⟨hX⟩
  have HO : Hid (∀ t, t < b → expo (X t) ≠ 2047) := ⟨hok⟩
  have HN : Hid (expo (X b) = 2047) := ⟨hbad⟩
  clear hX hok hbad
  go_enter Tryd.func3, Tryd.ntmps3
  go_wp2_with (go_at_call 4; refine (bytes_yes _ _ _ _ hL).mono ?_; rintro e w' ⟨rfl, hw⟩; subst hw)
  go_loop [3] (fun i => ∃ k : Nat, k ≤ b ∧ i = .int .i64 k) (fun i => b - (intOf i).toNat)
  case atStart => exact ⟨0, Nat.zero_le _, rfl⟩
  case round =>
    obtain ⟨k, hk, rfl⟩ := hrel
    have hkL : k < L := by omega
    obtain ⟨p, rfl, q1⟩ := HX.out.at (Below.refl _ _) hkL
    have g0 : (0 : Int) ≤ (k : Int) := by omega
    have g1 : (k : Int) < (L : Int) := by omega
    by_cases e : k = b
    · subst e
      have HC : Hid _ := ⟨fin_no (X k) w HN.out⟩
      go_wp2_with (go_at_call 5; refine HC.out.mono ?_; rintro e w' ⟨rfl, hw⟩; subst hw)
      go_ret
      exact ⟨rfl, (Below.refl _ _).drew⟩
    · have HC : Hid _ := ⟨fin_yes (X k) w (HO.out k (by omega))⟩
      go_wp2_with (go_at_call 5; refine HC.out.mono ?_; rintro e w' ⟨rfl, hw⟩; subst hw)
      go_round
      case rel => exact ⟨k + 1, by omega, by go_num⟩
      case measure => simp [intOf]; omega
end Go.Proofs.Qxb6608777aDoor
