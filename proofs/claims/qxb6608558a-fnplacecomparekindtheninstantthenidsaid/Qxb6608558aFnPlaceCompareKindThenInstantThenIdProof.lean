import Derived.Test.Qxb6608558aRows
import Derived.Test.Qxb6608558aW2
import Derived.WalkKit
import Derived.ProofKit
import Derived.OpenShut
import Derived.ShutString
namespace Go.Proofs.Qxb6608558a.fnPlaceCompareKindThenInstantThenId
open Go.ChangeShapes Go.WideShapes Go.ChangeAt Go.RowKit
open Go.ChangeMaps (open_string shut_string)
set_option linter.unusedVariables false      -- a walk need not use every 'w<i>' (that an integer argument fits its kind)

theorem own : ownKnob Try.prog.godebug = none := by kernel_rfl

set_option maxRecDepth 100000 in
set_option maxHeartbeats 1000000 in
theorem walk_long (k1 n1 k2 n2 : Int) (a b c : ByteArray) (w : World) (ha : a.size ≤ maxLen) (hb : b.size ≤ maxLen) (hc : c.size ≤ maxLen) (h : 1048576 < a.size + b.size + c.size) :
    Calls Try.prog 5 #[.int .i64 k1, .int .i64 n1, .string a, .int .i64 k2, .int .i64 n2, .string b, .string c] w fun e w' => e = .returned (.bool true) ∧ Below w.heap.size w w' := by
  go_enter Try.func5, Try.ntmps5
  go_wp2_with fail
  refine (bytes14_no _ _ _ _ _ _ _ _ ha hb hc h).mono ?_
  rintro e w' ⟨rfl, rfl⟩
  go_wp2
  go_ret
  exact ⟨rfl, Below.refl _ _⟩

set_option maxRecDepth 100000 in
set_option maxHeartbeats 1000000 in
theorem walk_out (k1 n1 k2 n2 : Int) (a b c : ByteArray) (w : World) (hs : a.size + b.size + c.size ≤ 1048576) (h : ¬ (0 ≤ k1 ∧ k1 ≤ 2 ∧ 0 ≤ k2 ∧ k2 ≤ 2)) :
    Calls Try.prog 5 #[.int .i64 k1, .int .i64 n1, .string a, .int .i64 k2, .int .i64 n2, .string b, .string c] w fun e w' => e = .returned (.bool true) ∧ Below w.heap.size w w' := by
  by_cases h1 : k1 < 0
  · clear h
    go_enter Try.func5, Try.ntmps5
    go_wp2_with (go_at_call 14; refine (bytes14_yes _ _ _ _ _ _ _ _ hs).mono ?_; rintro e w' ⟨rfl, rfl⟩)
    go_ret
    exact ⟨rfl, Below.refl _ _⟩
  by_cases h2 : 2 < k1
  · clear h
    go_enter Try.func5, Try.ntmps5
    go_wp2_with (go_at_call 14; refine (bytes14_yes _ _ _ _ _ _ _ _ hs).mono ?_; rintro e w' ⟨rfl, rfl⟩)
    go_ret
    exact ⟨rfl, Below.refl _ _⟩
  by_cases h3 : k2 < 0
  · clear h
    go_enter Try.func5, Try.ntmps5
    go_wp2_with (go_at_call 14; refine (bytes14_yes _ _ _ _ _ _ _ _ hs).mono ?_; rintro e w' ⟨rfl, rfl⟩)
    go_ret
    exact ⟨rfl, Below.refl _ _⟩
  · have h4 : 2 < k2 := by omega
    clear h
    go_enter Try.func5, Try.ntmps5
    go_wp2_with (go_at_call 14; refine (bytes14_yes _ _ _ _ _ _ _ _ hs).mono ?_; rintro e w' ⟨rfl, rfl⟩)
    go_ret
    exact ⟨rfl, Below.refl _ _⟩

theorem walk (a0 : Int) (a1 : Int) (a2 : ByteArray) (a3 : Int) (a4 : Int) (a5 : ByteArray) (a6 : ByteArray) (w0 : (Lit.int .i64 a0).wf = true) (w1 : (Lit.int .i64 a1).wf = true) (w2 : a2.size ≤ maxLen) (w3 : (Lit.int .i64 a3).wf = true) (w4 : (Lit.int .i64 a4).wf = true) (w5 : a5.size ≤ maxLen) (w6 : a6.size ≤ maxLen) (w : World) :
    Calls Try.prog 5 #[.int .i64 a0, .int .i64 a1, .string a2, .int .i64 a3, .int .i64 a4, .string a5, .string a6] w fun e w' => e = .returned (.bool true) ∧ Below w.heap.size w w' := by
  obtain ⟨x1, y1⟩ := bounds_i64 w1
  obtain ⟨x4, y4⟩ := bounds_i64 w4
  by_cases hs : a2.size + a5.size + a6.size ≤ 1048576
  · by_cases hk : 0 ≤ a0 ∧ a0 ≤ 2 ∧ 0 ≤ a3 ∧ a3 ≤ 2
    · obtain ⟨p0, p1, p2, p3⟩ := hk
      by_cases e1 : a0 = a3
      · subst e1
        by_cases e2 : a1 = a4
        · subst e2
          cases he : a6.toList.isEmpty
          · exact walk_ee_f a0 a1 a2 a5 a6 w hs p0 p1 x1 y1 he
          · exact walk_ee_t a0 a1 a2 a5 a6 w hs p0 p1 x1 y1 he
        · cases he : a6.toList.isEmpty
          · exact walk_en_f a0 a1 a4 a2 a5 a6 w hs p0 p1 x1 y1 x4 y4 e2 he
          · exact walk_en_t a0 a1 a4 a2 a5 a6 w hs p0 p1 x1 y1 x4 y4 e2 he
      · by_cases e2 : a1 = a4
        · subst e2
          cases he : a6.toList.isEmpty
          · exact walk_ke_f a0 a1 a3 a2 a5 a6 w hs p0 p1 x1 y1 p2 p3 e1 he
          · exact walk_ke_t a0 a1 a3 a2 a5 a6 w hs p0 p1 x1 y1 p2 p3 e1 he
        · cases he : a6.toList.isEmpty
          · exact walk_kn_f a0 a1 a3 a4 a2 a5 a6 w hs p0 p1 x1 y1 p2 p3 e1 x4 y4 e2 he
          · exact walk_kn_t a0 a1 a3 a4 a2 a5 a6 w hs p0 p1 x1 y1 p2 p3 e1 x4 y4 e2 he
    · exact walk_out a0 a1 a3 a4 a2 a5 a6 w hs hk
  · exact walk_long a0 a1 a3 a4 a2 a5 a6 w w2 w5 w6 (by omega)

/-! ### THE ROW's STEP: WRITTEN OUT: LEAVE IT -/
set_option maxRecDepth 100000 in
theorem lifted (os : Os) (started : os.Started) (H : Type) (enc : TypeId × Value → H) :
    ReturnsInHanded {} Try.checked os 5 .any (Rows.fnPlaceCompareKindThenInstantThenIdSpec.pre6 enc Try.prog Try.f5 Rows.fnPlaceCompareKindThenInstantThenIdRow.domain false) (Rows.fnPlaceCompareKindThenInstantThenIdSpec.post enc Try.prog Try.f5 false true false false) := by
  refine returnsInHanded_of_change (C := Try.checked) own started (by kernel_rfl) Try.func5
    (ChangeSpec.witness6 (enc := enc) (C := Try.checked) false ⟨#[], #[.int .i64 0, .int .i64 0, .string ByteArray.empty, .int .i64 0, .int .i64 0, .string ByteArray.empty, .string ByteArray.empty], []⟩ 8 (by kernel_rfl) (by kernel_rfl) (by kernel_rfl) (by kernel_rfl)) ?_
  intro W base args ds gs before hval0 hW hcnd _
  have hval : ∀ (j : Nat) t v, Try.f5.params[j]? = some t → args[j]? = some v → Value.okWide Try.prog W .any base t v := hval0
  have hW' := hW
  obtain ⟨p, q, hA0, hV, rfl, hfz, hnd⟩ := hW
  have hA : DataW.TrodAll enc Try.prog W 0 (fun _ => true) true Try.f5.params.toList args.toList ds p := hA0
  rw [Try.params5] at hA hval
  obtain ⟨v0, vs0, d0, ds0, p0, q0, hargs, rfl, rfl, h0, r0⟩ := trodAll_cons hA
  obtain ⟨v1, vs1, d1, ds1, p1, q1, rfl, rfl, rfl, h1, r1⟩ := trodAll_cons r0
  obtain ⟨v2, vs2, d2, ds2, p2, q2, rfl, rfl, rfl, h2, r2⟩ := trodAll_cons r1
  obtain ⟨v3, vs3, d3, ds3, p3, q3, rfl, rfl, rfl, h3, r3⟩ := trodAll_cons r2
  obtain ⟨v4, vs4, d4, ds4, p4, q4, rfl, rfl, rfl, h4, r4⟩ := trodAll_cons r3
  obtain ⟨v5, vs5, d5, ds5, p5, q5, rfl, rfl, rfl, h5, r5⟩ := trodAll_cons r4
  obtain ⟨v6, vs6, d6, ds6, p6, q6, rfl, rfl, rfl, h6, r6⟩ := trodAll_cons r5
  obtain ⟨rfl, rfl, rfl⟩ := trodAll_nil r6
  obtain rfl : args = #[v0, v1, v2, v3, v4, v5, v6] := by cases args; simp_all
  obtain ⟨rfl, rfl⟩ := trodVars_none hV
  obtain ⟨a0, rfl, rfl, rfl, w0⟩ := open_int Try.underlying3 (hval 0 3 v0 rfl rfl) h0
  obtain ⟨a1, rfl, rfl, rfl, w1⟩ := open_int Try.underlying2 (hval 1 2 v1 rfl rfl) h1
  obtain ⟨a2, rfl, rfl, rfl, w2⟩ := open_string Try.underlying9 (hval 2 9 v2 rfl rfl) h2
  obtain ⟨a3, rfl, rfl, rfl, w3⟩ := open_int Try.underlying3 (hval 3 3 v3 rfl rfl) h3
  obtain ⟨a4, rfl, rfl, rfl, w4⟩ := open_int Try.underlying2 (hval 4 2 v4 rfl rfl) h4
  obtain ⟨a5, rfl, rfl, rfl, w5⟩ := open_string Try.underlying9 (hval 5 9 v5 rfl rfl) h5
  obtain ⟨a6, rfl, rfl, rfl, w6⟩ := open_string Try.underlying9 (hval 6 9 v6 rfl rfl) h6
  clear hA0 hval0
  simp only [List.append_nil] at hW'
  refine (walk a0 a1 a2 a3 a4 a5 a6 w0 w1 w2 w3 w4 w5 w6 W).mono fun e W' ⟨he, bel⟩ => ?_
  subst he
  exact ⟨_, rfl, _, _, _, [], [], [], hW', trodAll_mk1 (shut_bool Try.underlying4 _), (trodAll_cons_mk (shut_int Try.underlying3 w0) (trodAll_cons_mk (shut_int Try.underlying2 w1) (trodAll_cons_mk (shut_string Try.underlying9 w2) (trodAll_cons_mk (shut_int Try.underlying3 w3) (trodAll_cons_mk (shut_int Try.underlying2 w4) (trodAll_cons_mk (shut_string Try.underlying9 w5) (trodAll_cons_mk (shut_string Try.underlying9 w6) trodAll_mk0))))))), rfl, bel.frame _, fun h => by cases h⟩

theorem over : Rows.fnPlaceCompareKindThenInstantThenIdRow.holds Try.pinned (OpenSpec.ofChange Rows.fnPlaceCompareKindThenInstantThenIdSpec) :=
  OpenClaim.holds_of_wide 5 Try.f5 rfl rfl rfl rfl rfl rfl rfl ⟨rfl, rfl, rfl, rfl, rfl⟩ rfl rfl rfl rfl rfl (by kernel_rfl) Try.func5 (by kernel_rfl)
    (of_decide_eq_true (by kernel_rfl)) (by unfold Func.isWrapper; first | (rw [if_pos (by decide +kernel)]; kernel_rfl) | (rw [if_neg (by decide +kernel)]; exact ⟨rfl, rfl⟩))
    (fun os started H enc _ => lifted os started H enc)

end Go.Proofs.Qxb6608558a.fnPlaceCompareKindThenInstantThenId
namespace Go.Proofs.Qxb6608558a
/-- THE STATEMENT. -/
theorem fnPlaceCompareKindThenInstantThenIdProved : Rows.FnPlaceCompareKindThenInstantThenIdSaid :=
  fnPlaceCompareKindThenInstantThenId.over
end Go.Proofs.Qxb6608558a
