import Derived.Test.Qxb6608645aRoster
namespace Go.Proofs.Qxb6608645a
open Go.RowKit
def eqS (a b : ByteArray) : Bool := a.toList == b.toList

set_option maxHeartbeats 1000000 in
theorem closure_any (a s : ByteArray) (v1 v2 v3 v4 v5 v6 v7 v8 v9 : Value) (nb : Nat) (w : World) (hc : w.cell? ⟨nb, 0, none⟩ = some (.string s)) (hnb : nb < w.heap.size) :
    Calls Try.prog 12 #[.agg #[.string a, v1, v2, v3, v4, v5, v6, v7, v8, v9], .pointer (some ⟨nb, 0, none⟩)] w fun e w' => e = .returned (.bool (eqS a s)) ∧ w' = w.alloc (.cells #[.string a, v1, v2, v3, v4, v5, v6, v7, v8, v9] 41) := by
  go_enter Try.func12, Try.ntmps12
  go_wp2
  go_ret
  exact ⟨rfl, rfl⟩
/-- r is the least index at which s stands among the first n of S, or -1 where it stands nowhere. -/
def IsIdx (n : Nat) (S : Nat → ByteArray) (s : ByteArray) (r : Int) : Prop :=
  (r = -1 ∧ ∀ i, i < n → eqS (S i) s = false) ∨ ∃ k : Nat, r = k ∧ k < n ∧ eqS (S k) s = true ∧ ∀ i, i < k → eqS (S i) s = false
def Finds (n : Nat) (S : Nat → ByteArray) (s : ByteArray) (w : World) (e : Ending) (w' : World) : Prop := ∃ r, e = .returned (.int .i64 r) ∧ IsIdx n S s r ∧ Below w.heap.size w w'
theorem Finds.at {n : Nat} {S : Nat → ByteArray} {s : ByteArray} {w w' : World} {v : Value} (k : Nat) (hv : v = .int .i64 k) (hk : k < n) (h1 : eqS (S k) s = true) (h2 : ∀ i, i < k → eqS (S i) s = false) (hB : Below w.heap.size w w') : Finds n S s w (.returned v) w' :=
  ⟨k, by rw [hv], Or.inr ⟨k, rfl, hk, h1, h2⟩, hB⟩
theorem Finds.none {n : Nat} {S : Nat → ByteArray} {s : ByteArray} {w w' : World} {v : Value} (hv : v = .int .i64 (-1)) (h : ∀ i, i < n → eqS (S i) s = false) (hB : Below w.heap.size w w') : Finds n S s w (.returned v) w' :=
  ⟨-1, by rw [hv], Or.inl ⟨rfl, h⟩, hB⟩

set_option maxHeartbeats 1000000 in
theorem indexFunc_any (pb n cap nb : Nat) (s : ByteArray) (S : Nat → ByteArray) (w : World) (hn : n ≤ 65537) (hpb : pb < w.heap.size) (hC : ∀ o, o < n * 10 → ∃ v, w.cell? ⟨pb, o, none⟩ = some v) (hS : ∀ i, i < n → w.cell? ⟨pb, i * 10, none⟩ = some (.string (S i)))
    (hc : w.cell? ⟨nb, 0, none⟩ = some (.string s)) (hnb : nb < w.heap.size) :
    Calls Try.prog 11 #[.slice (some ⟨pb, 0, none⟩) n cap, .func (.func 12) #[] #[.pointer (some ⟨nb, 0, none⟩)]] w (Finds n S s w) := by
  go_enter Try.func11, Try.ntmps11
  go_wp2
  go_loopw [8] (fun i wr => ∃ k : Nat, k ≤ n ∧ i = .int .i64 k ∧ Hid (∀ i, i < k → eqS (S i) s = false) ∧ Below w.heap.size w wr) (fun i _ => n - (intOf i).toNat)
  case atStart => exact ⟨0, Nat.zero_le _, rfl, fun i hi => absurd hi (Nat.not_lt_zero i), Below.refl _ _⟩
  case round =>
    obtain ⟨k, hk, rfl, hA, hB⟩ := hrel
    have nbr : nb < wr.heap.size := Nat.lt_of_lt_of_le hnb hB.size
    have hcr := (hB.cell (p := ⟨nb, 0, none⟩) hnb).trans hc
    by_cases hlt : k < n
    · have q0 := (hB.cell (p := ⟨pb, k * 10, none⟩) hpb).trans (hS k hlt)
      obtain ⟨v1, q1⟩ := hC (k * 10 + 1) (by omega)
      obtain ⟨v2, q2⟩ := hC (k * 10 + 2) (by omega)
      obtain ⟨v3, q3⟩ := hC (k * 10 + 3) (by omega)
      obtain ⟨v4, q4⟩ := hC (k * 10 + 4) (by omega)
      obtain ⟨v5, q5⟩ := hC (k * 10 + 5) (by omega)
      obtain ⟨v6, q6⟩ := hC (k * 10 + 6) (by omega)
      obtain ⟨v7, q7⟩ := hC (k * 10 + 7) (by omega)
      obtain ⟨v8, q8⟩ := hC (k * 10 + 8) (by omega)
      obtain ⟨v9, q9⟩ := hC (k * 10 + 9) (by omega)
      replace q1 := (hB.cell (p := ⟨pb, k * 10 + 1, none⟩) hpb).trans q1
      replace q2 := (hB.cell (p := ⟨pb, k * 10 + 2, none⟩) hpb).trans q2
      replace q3 := (hB.cell (p := ⟨pb, k * 10 + 3, none⟩) hpb).trans q3
      replace q4 := (hB.cell (p := ⟨pb, k * 10 + 4, none⟩) hpb).trans q4
      replace q5 := (hB.cell (p := ⟨pb, k * 10 + 5, none⟩) hpb).trans q5
      replace q6 := (hB.cell (p := ⟨pb, k * 10 + 6, none⟩) hpb).trans q6
      replace q7 := (hB.cell (p := ⟨pb, k * 10 + 7, none⟩) hpb).trans q7
      replace q8 := (hB.cell (p := ⟨pb, k * 10 + 8, none⟩) hpb).trans q8
      replace q9 := (hB.cell (p := ⟨pb, k * 10 + 9, none⟩) hpb).trans q9
      go_wp2_with (go_at_call 12; refine (closure_any _ _ _ _ _ _ _ _ _ _ _ nb _ hcr nbr).mono ?_; rintro e w1 ⟨rfl, rfl⟩)
      · go_ret
        exact Finds.at k rfl hlt (by assumption) hA.out (Bal hB _)
      · go_roundw
        case rel => exact ⟨k + 1, by omega, by go_num, fun i hi => by rcases Nat.lt_succ_iff_lt_or_eq.1 hi with h | h; exact hA.out i h; subst h; assumption, Bal hB _⟩
        case measure => simp [intOf]; omega
    · go_wp2
      go_ret
      exact Finds.none rfl (fun i hi => hA.out i (by omega)) hB
set_option maxHeartbeats 1000000 in
theorem indexFunc_zero (pa : Option Addr) (cap : Nat) (f : Value) (s : ByteArray) (S : Nat → ByteArray) (w : World) : Calls Try.prog 11 #[.slice pa 0 cap, f] w (Finds 0 S s w) := by
  go_enter Try.func11, Try.ntmps11
  go_wp2
  refine wp_loop_rounds 1 ?_
  rw [rounds_succ]
  go_wp2
  go_ret
  exact Finds.none rfl (fun i hi => absurd hi (Nat.not_lt_zero i)) (Below.refl _ _)

theorem Finds.from {n : Nat} {S : Nat → ByteArray} {s : ByteArray} {w w1 : World} (hB : Below w.heap.size w w1) {e : Ending} {w' : World} (h : Finds n S s w1 e w') : Finds n S s w e w' := by
  obtain ⟨r, he, hi, hb⟩ := h
  exact ⟨r, he, hi, Bnx hB hb⟩

set_option maxHeartbeats 1000000 in
theorem indexOf_any (D n : Nat) (s : ByteArray) (S : Nat → ByteArray) (w : World) (hn : n ≤ 65537) (hR : Rost w D n S) :
    Calls Try.prog 8 #[.pointer (some ⟨D, 0, none⟩), .string s] w (Finds n S s w) := by
  obtain ⟨hD, pa, cap, hf, hp⟩ := hR
  by_cases h0 : n = 0
  · subst h0
    clear hp
    go_enter Try.func8, Try.ntmps8
    go_wp2_with fail
    refine (indexFunc_zero _ _ _ s S _).mono ?_
    rintro e w1 ⟨r, rfl, hi, hB⟩
    go_wp2
    go_ret
    exact ⟨r, rfl, hi, Bnx (Bal (Below.refl _ _) _) hB⟩
  · obtain ⟨pb, rfl, hpb, hC, hS⟩ := hp (by omega)
    have hB1 : Below w.heap.size w (w.alloc (.cells #[.string s] 9)) := Bal (Below.refl _ _) _
    go_enter Try.func8, Try.ntmps8
    go_wp2_with fail
    refine (indexFunc_any pb n cap w.heap.size s S (w.alloc (.cells #[.string s] 9)) hn (by simp; omega) (fun o ho => ?_) (fun i hi => (hB1.cell (p := ⟨pb, _, none⟩) hpb).trans (hS i hi)) (by simp [go_sem]) (by simp)).mono ?_
    · obtain ⟨v, hv⟩ := hC o ho
      exact ⟨v, (hB1.cell (p := ⟨pb, _, none⟩) hpb).trans hv⟩
    rintro e w1 ⟨r, rfl, hi, hB⟩
    go_wp2
    go_ret
    exact ⟨r, rfl, hi, Bnx hB1 hB⟩
end Go.Proofs.Qxb6608645a
