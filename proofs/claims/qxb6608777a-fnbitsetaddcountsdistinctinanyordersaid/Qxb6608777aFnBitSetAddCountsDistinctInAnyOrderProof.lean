import Derived.Test.Qxb6608777aRows
import Derived.Test.Qxb6608777aLaw
import Derived.WalkKit
import Derived.ProofKit
import Derived.OpenShut
import Derived.ShutString
import Derived.ChangeOld
import Derived.Below
namespace Go.Proofs.Qxb6608777a.fnBitSetAddCountsDistinctInAnyOrder
open Go.ChangeShapes Go.WideShapes Go.ChangeAt Go.RowKit
open Go.ChangeMaps (open_string shut_string)
set_option linter.unusedVariables false

theorem own : ownKnob Try.prog.godebug = none := by kernel_rfl
theorem laidOut : laidOutB Try.prog = true := by kernel_rfl

/-- WHAT THE WALK IS TOLD OF A SLICE OF INTEGERS THAT CAME IN: it is nil; or it leads to a row of 'cap' cells, the numbers 'zs' (the first 'len' are its elements, the rest its spare room), each fitting its kind. -/
def IsRow (k : IntKind) (w : World) (a : Option Addr) (len cap : Nat) (zs : List Int) : Prop :=
  (a = none ∧ len = 0 ∧ cap = 0 ∧ zs = []) ∨
  ∃ x, a = some x ∧ len ≤ cap ∧ cap ≤ maxLen ∧ zs.length = cap ∧ (∀ i, i < zs.length → w.cell? (x.add i) = some (.int k (zs.getD i 0))) ∧ ∀ n ∈ zs, (Lit.int k n).wf = true

theorem cell_lt {W : World} {x : Addr} {v : Value} (h : W.cell? x = some v) : x.block < W.heap.size := by
  apply Nat.lt_of_not_le
  intro hle
  have e : W.heap[x.block]? = none := by simp; omega
  simp [World.cell?, e] at h
/-- The least number with a property. -/
theorem least {p : Nat → Prop} (n : Nat) : p n → ∃ b, b ≤ n ∧ p b ∧ ∀ t, t < b → ¬ p t := by
  induction n using Nat.strongRecOn with
  | ind n ih =>
    intro h
    by_cases hc : ∃ t, t < n ∧ p t
    · obtain ⟨t, ht, hp⟩ := hc
      obtain ⟨b, hb, hpb, hl⟩ := ih t ht hp
      exact ⟨b, by omega, hpb, hl⟩
    · exact ⟨n, Nat.le_refl _, h, fun t ht hp => hc ⟨t, ht, hp⟩⟩
theorem walk (a0 : Int) (a1 : Option Addr) (len1 cap1 : Nat) (z1 : List Int) (w : World) (w0 : (Lit.int .i64 a0).wf = true) (w1 : IsRow .i64 w a1 len1 cap1 z1) :
    Calls Try.prog 3 #[.int .i64 a0, .slice a1 len1 cap1] w fun e w' => e = .returned (.bool true) ∧ Below w.heap.size w w' := by
  have hlen : len1 ≤ maxLen := by
    rcases w1 with ⟨_, h, _⟩ | ⟨_, _, hl, hm, _⟩
    · rw [h]; exact Nat.zero_le _
    · exact Nat.le_trans hl hm
  by_cases h : 65536 < len1 ∨ a0 < 0 ∨ 65536 < a0
  · exact law_early a0 a1 len1 cap1 w hlen h
  obtain ⟨s, rfl⟩ : ∃ s : Nat, a0 = (s : Int) := ⟨a0.toNat, by omega⟩
  by_cases hbad : ∃ t, t < len1 ∧ (z1.getD t 0 < 0 ∨ (s : Int) ≤ z1.getD t 0)
  · obtain ⟨t, ht, hb⟩ := hbad
    obtain ⟨b, hbt, hpb, hl⟩ := least (p := fun t => z1.getD t 0 < 0 ∨ (s : Int) ≤ z1.getD t 0) t hb
    rcases w1 with ⟨_, h0, _⟩ | ⟨x, rfl, hl1, hm, hz, hc, _⟩
    · omega
    · exact law_bad s x len1 cap1 b (fun i => z1.getD i 0) w (by omega) (by omega) (fun i hi => hc i (by omega)) (by omega) hpb (fun t ht => by have := hl t ht; omega)
  · have hok : ∀ t, t < len1 → 0 ≤ z1.getD t 0 ∧ z1.getD t 0 < s := fun t ht => by
      rcases Int.lt_or_le (z1.getD t 0) 0 with h1 | h1
      · exact absurd ⟨t, ht, Or.inl h1⟩ hbad
      · rcases Int.lt_or_le (z1.getD t 0) s with h2 | h2
        · exact ⟨h1, h2⟩
        · exact absurd ⟨t, ht, Or.inr h2⟩ hbad
    refine law_good s a1 len1 cap1 (fun t => (z1.getD t 0).toNat) w (by omega) (by omega) ?_ (fun t ht => by have := hok t ht; show (z1.getD t 0).toNat < s; omega)
    intro h0
    rcases w1 with ⟨_, e, _⟩ | ⟨x, rfl, hl1, hm, hz, hc, _⟩
    · omega
    · refine ⟨x, rfl, ?_, fun i hi => ?_⟩
      · have := cell_lt (hc 0 (by omega))
        simpa [Addr.add] using this
      · rw [hc i (by omega)]
        have := hok i hi
        show some (Value.int .i64 (z1.getD i 0)) = some (Value.int .i64 ((z1.getD i 0).toNat : Nat))
        rw [Int.toNat_of_nonneg this.1]

/-! ### THE ROW's STEP: WRITTEN OUT: LEAVE IT -/
set_option maxRecDepth 100000 in
theorem lifted (os : Os) (started : os.Started) (H : Type) (enc : TypeId × Value → H) :
    ReturnsInHanded {} Try.checked os 3 .any (Rows.fnBitSetAddCountsDistinctInAnyOrderSpec.pre6 enc Try.prog Try.f3 Rows.fnBitSetAddCountsDistinctInAnyOrderRow.domain false) (Rows.fnBitSetAddCountsDistinctInAnyOrderSpec.post enc Try.prog Try.f3 false true false false) := by
  refine returnsInHanded_of_change (C := Try.checked) own started (by kernel_rfl) Try.func3
    (ChangeSpec.witness6 (enc := enc) (C := Try.checked) false ⟨#[], #[.int .i64 0, .slice none 0 0], []⟩ 8 (by kernel_rfl) (by kernel_rfl) (by kernel_rfl) (by kernel_rfl)) ?_
  intro W base args ds gs before hval0 hW hcnd _
  have hval : ∀ (j : Nat) t v, Try.f3.params[j]? = some t → args[j]? = some v → Value.okWide Try.prog W .any base t v := hval0
  have hW' := hW
  obtain ⟨p, q, hA0, hV, rfl, hfz, hnd⟩ := hW
  have hA : DataW.TrodAll enc Try.prog W 0 (fun _ => true) true Try.f3.params.toList args.toList ds p := hA0
  rw [Try.params3] at hA hval
  obtain ⟨v0, vs0, d0, ds0, p0, q0, hargs, rfl, rfl, h0, r0⟩ := trodAll_cons hA
  obtain ⟨v1, vs1, d1, ds1, p1, q1, rfl, rfl, rfl, h1, r1⟩ := trodAll_cons r0
  obtain ⟨rfl, rfl, rfl⟩ := trodAll_nil r1
  obtain rfl : args = #[v0, v1] := by cases args; simp_all
  obtain ⟨rfl, rfl⟩ := trodVars_none hV
  obtain ⟨a0, rfl, rfl, rfl, w0⟩ := open_int Try.underlying3 (hval 0 3 v0 rfl rfl) h0
  obtain ⟨a1, len1, cap1, rfl⟩ := okWide_slice Try.underlying22 (hval 1 22 v1 rfl rfl)
  have k1 := h1
  have lt1 : ∀ x ∈ p1, x.block < W.heap.size := by obtain ⟨m, hm⟩ := k1; exact DataW.trod_lt m _ _ _ hm
  obtain ⟨z1, w1⟩ : ∃ zs, IsRow .i64 W a1 len1 cap1 zs := by
    obtain ⟨fuel, hf⟩ := h1
    rcases open_ints Try.underlying22 Try.underlying3 (by kernel_rfl) hf with ⟨hcs, _⟩ | ⟨x, l, c, zs, hcs, _, hl, hm, hz, _, hcell, hwz⟩
    · simp [Value.cells] at hcs
      obtain ⟨rfl, rfl, rfl⟩ := hcs
      exact ⟨[], .inl ⟨rfl, rfl, rfl, rfl⟩⟩
    · simp [Value.cells] at hcs
      obtain ⟨rfl, rfl, rfl⟩ := hcs
      exact ⟨zs, .inr ⟨_, rfl, hl, hm, by simpa using hz, hcell, hwz⟩⟩
  clear hA0 hval0
  refine (walk a0 a1 len1 cap1 z1 W w0 w1).mono fun e W' ⟨he, bel⟩ => ?_
  subst he
  exact ⟨_, rfl, _, _, _, [], _, [], hW', trodAll_mk1 (shut_bool Try.underlying4 _), (trodAll_cons_mk (shut_int Try.underlying3 w0) (trodAll_cons_mk (Below.trod laidOut (by kernel_rfl) (of_decide_eq_true (by kernel_rfl)) k1 bel lt1) trodAll_mk0)), rfl, bel.frame _, fun h => by cases h⟩

theorem over : Rows.fnBitSetAddCountsDistinctInAnyOrderRow.holds Try.pinned (OpenSpec.ofChange Rows.fnBitSetAddCountsDistinctInAnyOrderSpec) :=
  OpenClaim.holds_of_wide 3 Try.f3 rfl rfl rfl rfl rfl rfl rfl ⟨rfl, rfl, rfl, rfl, rfl⟩ rfl rfl rfl rfl rfl (by kernel_rfl) Try.func3 (by kernel_rfl)
    (of_decide_eq_true (by kernel_rfl)) (by unfold Func.isWrapper; first | (rw [if_pos (by decide +kernel)]; kernel_rfl) | (rw [if_neg (by decide +kernel)]; exact ⟨rfl, rfl⟩))
    (fun os started H enc _ => lifted os started H enc)

end Go.Proofs.Qxb6608777a.fnBitSetAddCountsDistinctInAnyOrder
namespace Go.Proofs.Qxb6608777a
/-- THE STATEMENT. -/
theorem fnBitSetAddCountsDistinctInAnyOrderProved : Rows.FnBitSetAddCountsDistinctInAnyOrderSaid :=
  fnBitSetAddCountsDistinctInAnyOrder.over
end Go.Proofs.Qxb6608777a
