import Derived.Test.Qxb6608558aRows
import Derived.Test.Qxb6608558aLaw2
import Derived.WalkKit
import Derived.ProofKit
import Derived.OpenShut
import Derived.ShutString
import Derived.ChangeOld
import Derived.Below
import Derived.Deep.Slices
namespace Go.Proofs.Qxb6608558a.fnAfterSkipsThroughItsOwnPlace
open Go.ChangeShapes Go.WideShapes Go.ChangeAt Go.RowKit
open Go.ChangeMaps (open_string shut_string)
set_option linter.unusedVariables false

theorem own : ownKnob Try.prog.godebug = none := by kernel_rfl
theorem laidOut : laidOutB Try.prog = true := by kernel_rfl
theorem cells73 : Try.prog.cellsOf 73 = 4 := by kernel_rfl
theorem cells9 : Try.prog.cellsOf 9 = 1 := by kernel_rfl
theorem cells4 : Try.prog.cellsOf 4 = 1 := by kernel_rfl
theorem cells2 : Try.prog.cellsOf 2 = 1 := by kernel_rfl

theorem block_lt {W : World} {b o : Nat} {v : Value} (h : W.cell? ⟨b, o, none⟩ = some v) : b < W.heap.size := by
  apply Nat.lt_of_not_le
  intro hle
  have e : W.heap[b]? = none := by simp; omega
  simp [World.cell?, e] at h

set_option maxRecDepth 100000 in
/-- The list that came in: it is empty; or it leads to a row of structs. -/
theorem open_list {H : Type} {enc : TypeId × Value → H} {W : World} {fuel : Nat} {a : Option Addr} {len cap : Nat} {x : DataW H × List MemPlace}
    (hf : DataW.trod enc Try.prog W 0 (fun _ => true) true fuel 46 [.slice a len cap] = some x) :
    len = 0 ∨ ∃ b off ID HB NX NS, a = some ⟨b, off, none⟩ ∧ InAt W b off len ID HB NX NS ∧ len ≤ maxLen ∧ b < W.heap.size ∧ ∀ i, i < len → -9223372036854775808 ≤ NS i ∧ NS i ≤ 9223372036854775807 := by
  rcases Deep.open_slice Try.underlying46 hf with ⟨hcs, _⟩ | ⟨a', len', cap', m, n, D, Pl, hcs, _, hl, hm, hmm, _, hx⟩
  · simp at hcs; exact Or.inl hcs.2.1
  simp at hcs
  obtain ⟨rfl, rfl, rfl⟩ := hcs
  by_cases h0 : len = 0
  · exact Or.inl h0
  right
  simp only [if_true] at hmm
  subst hmm
  rw [cells73] at hx
  have each : ∀ i, i < m → ∃ q : ByteArray × Bool × Bool × Int, W.cell? (a'.add (i * 4)) = some (.string q.1) ∧ W.cell? (a'.add (i * 4 + 1)) = some (.bool q.2.1) ∧ W.cell? (a'.add (i * 4 + 2)) = some (.bool q.2.2.1) ∧ W.cell? (a'.add (i * 4 + 3)) = some (.int .i64 q.2.2.2) ∧ q.1.size ≤ maxLen ∧ (Lit.int .i64 q.2.2.2).wf = true := by
    intro i hi
    obtain ⟨cs', h1, h2⟩ := hx i hi
    obtain ⟨_, hlen, hcell⟩ := World.cells?_some h1
    obtain ⟨xs, k, _, _, _, hxl, hf'⟩ := DataW.trod_struct Try.underlying73 h2
    match xs, hxl, cs', hlen with
    | [y0, y1, y2, y3], _, [v0, v1, v2, v3], _ =>
      have g0 := hf' 0 _ rfl
      have g1 := hf' 1 _ rfl
      have g2 := hf' 2 _ rfl
      have g3 := hf' 3 _ rfl
      simp [cells9, cells4, cells2] at g0 g1 g2 g3
      obtain ⟨s, e0, _, hs⟩ := DataW.trod_string Try.underlying9 g0
      obtain ⟨b1, e1, _⟩ := DataW.trod_bool Try.underlying4 g1
      obtain ⟨b2, e2, _⟩ := DataW.trod_bool Try.underlying4 g2
      obtain ⟨z, e3, _, hz⟩ := DataW.trod_int Try.underlying2 g3
      simp at e0 e1 e2 e3
      have c0 := hcell 0 (by omega)
      have c1 := hcell 1 (by omega)
      have c2 := hcell 2 (by omega)
      have c3 := hcell 3 (by omega)
      rw [Deep.add_add] at c0 c1 c2 c3
      subst e0 e1 e2 e3
      exact ⟨(s, b1, b2, z), by simpa using c0, by simpa using c1, by simpa using c2, by simpa using c3, hs, hz⟩
  obtain ⟨q, hq⟩ := Deep.choose_lt each
  obtain ⟨b, off, spot⟩ := a'
  have hspot : spot = none := by simpa [Addr.add] using World.cell?_spot (hq 0 (by omega)).1
  subst hspot
  simp only [add_plain, ← Nat.add_assoc] at hq
  refine ⟨b, off, fun i => (q i).1, fun i => (q i).2.1, fun i => (q i).2.2.1, fun i => (q i).2.2.2, rfl, fun i hi => ?_, by omega, block_lt (hq 0 (by omega)).1, fun i hi => bounds_i64 (hq i (by omega)).2.2.2.2.2⟩
  obtain ⟨c0, c1, c2, c3, hs, _⟩ := hq i (by omega)
  exact ⟨c0, c1, c2, c3, hs⟩

set_option maxRecDepth 100000 in
theorem lifted (os : Os) (started : os.Started) (H : Type) (enc : TypeId × Value → H) :
    ReturnsInHanded {} Try.checked os 7 .any (Rows.fnAfterSkipsThroughItsOwnPlaceSpec.pre6 enc Try.prog Try.f7 Rows.fnAfterSkipsThroughItsOwnPlaceRow.domain false) (Rows.fnAfterSkipsThroughItsOwnPlaceSpec.post enc Try.prog Try.f7 false true false false) := by
  refine returnsInHanded_of_change (C := Try.checked) own started (by kernel_rfl) Try.func7
    (ChangeSpec.witness6 (enc := enc) (C := Try.checked) false ⟨#[], #[.slice none 0 0, .int .i64 0], []⟩ 8 (by kernel_rfl) (by kernel_rfl) (by kernel_rfl) (by kernel_rfl)) ?_
  intro W base args ds gs before hval0 hW hcnd _
  have hval : ∀ (j : Nat) t v, Try.f7.params[j]? = some t → args[j]? = some v → Value.okWide Try.prog W .any base t v := hval0
  have hW' := hW
  obtain ⟨p, q, hA0, hV, rfl, hfz, hnd⟩ := hW
  have hA : DataW.TrodAll enc Try.prog W 0 (fun _ => true) true Try.f7.params.toList args.toList ds p := hA0
  rw [Try.params7] at hA hval
  obtain ⟨v0, vs0, d0, ds0, p0, q0, hargs, rfl, rfl, h0, r0⟩ := trodAll_cons hA
  obtain ⟨v1, vs1, d1, ds1, p1, q1, rfl, rfl, rfl, h1, r1⟩ := trodAll_cons r0
  obtain ⟨rfl, rfl, rfl⟩ := trodAll_nil r1
  obtain rfl : args = #[v0, v1] := by cases args; simp_all
  obtain ⟨rfl, rfl⟩ := trodVars_none hV
  obtain ⟨a0, len0, cap0, rfl⟩ := okWide_slice Try.underlying46 (hval 0 46 v0 rfl rfl)
  have k0 := h0
  have lt0 : ∀ x ∈ p0, x.block < W.heap.size := by obtain ⟨m, hm⟩ := k0; exact DataW.trod_lt m _ _ _ hm
  obtain ⟨a1, rfl, rfl, rfl, w1⟩ := open_int Try.underlying3 (hval 1 3 v1 rfl rfl) h1
  have walk : Calls Try.prog 7 #[.slice a0 len0 cap0, .int .i64 a1] W fun e w' => e = .returned (.bool true) ∧ Below W.heap.size W w' := by
    obtain ⟨fuel, hf⟩ := h0
    rcases open_list (by simpa [Value.cells] using hf) with rfl | ⟨b, off, ID, HB, NX, NS, rfl, hI, hm, hb, hns⟩
    · exact law_none a0 cap0 a1 W
    · exact law_some b off len0 cap0 a1 ID HB NX NS W hm hI hns hb
  clear hA0 hval0
  refine walk.mono fun e W' ⟨he, bel⟩ => ?_
  subst he
  exact ⟨_, rfl, _, _, _, [], _, [], hW', trodAll_mk1 (shut_bool Try.underlying4 _), (trodAll_cons_mk (Below.trod laidOut (by kernel_rfl) (of_decide_eq_true (by kernel_rfl)) k0 bel lt0) (trodAll_cons_mk (shut_int Try.underlying3 w1) trodAll_mk0)), rfl, bel.frame _, fun h => by cases h⟩

theorem over : Rows.fnAfterSkipsThroughItsOwnPlaceRow.holds Try.pinned (OpenSpec.ofChange Rows.fnAfterSkipsThroughItsOwnPlaceSpec) :=
  OpenClaim.holds_of_wide 7 Try.f7 rfl rfl rfl rfl rfl rfl rfl ⟨rfl, rfl, rfl, rfl, rfl⟩ rfl rfl rfl rfl rfl (by kernel_rfl) Try.func7 (by kernel_rfl)
    (of_decide_eq_true (by kernel_rfl)) (by unfold Func.isWrapper; first | (rw [if_pos (by decide +kernel)]; kernel_rfl) | (rw [if_neg (by decide +kernel)]; exact ⟨rfl, rfl⟩))
    (fun os started H enc _ => lifted os started H enc)
end Go.Proofs.Qxb6608558a.fnAfterSkipsThroughItsOwnPlace
namespace Go.Proofs.Qxb6608558a
/-- THE STATEMENT. -/
theorem fnAfterSkipsThroughItsOwnPlaceProved : Rows.FnAfterSkipsThroughItsOwnPlaceSaid :=
  fnAfterSkipsThroughItsOwnPlace.over
end Go.Proofs.Qxb6608558a
