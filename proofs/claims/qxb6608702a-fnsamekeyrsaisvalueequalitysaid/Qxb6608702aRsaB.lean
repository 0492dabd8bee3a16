import Derived.Test.Qxb6608702aRsa
namespace Go.Proofs.Qxb6608702a
open Go.RowKit

theorem takeH {P : Program} {md : Region.Mode} {ops : Array Oper} {Q : Exit → Act → World → Prop} {S : World → Prop} (i : Nat) {d : Option Tmp} {op : Op} {ty : TypeId} {pos : String} {af : Array Edge} {g : Option (Nat × Bool)} (v : Value) {fuel : Nat} {listed : Array Bool} {a : Act} {w : World} (hi : ops[i]? = some ⟨d, op, ty, pos, af, g⟩)
    (hs : Region.noSelect ops = true) (hf : Region.free md ops listed i = true) (hr : (Region.ready md ops listed).contains i = true)
    (hQ : ∀ c a w, Q (.panic c) (a.put d v) w → Q (.panic c) a w) (hw : Region.wanted ⟨d, op, ty, pos, af, g⟩ (yielded ops a.tmps) = true) (hy : ∀ w, S w → (execOp a.eval ⟨d, op, ty, pos, af, g⟩).run P w = .ok (.value v) w) (hS : S w)
    (h : wpAnyH P md ops Q S fuel (listed.setIfInBounds i true) (a.put d v) w) : wpAnyH P md ops Q S (fuel + 1) listed a w :=
  wpAnyH_take hi hs hf hr hQ (Or.inl ⟨hw, hy⟩) hS h
theorem skipH {P : Program} {md : Region.Mode} {ops : Array Oper} {Q : Exit → Act → World → Prop} {S : World → Prop} (i : Nat) {d : Option Tmp} {op : Op} {ty : TypeId} {pos : String} {af : Array Edge} {g : Option (Nat × Bool)} {fuel : Nat} {listed : Array Bool} {a : Act} {w : World} (hi : ops[i]? = some ⟨d, op, ty, pos, af, g⟩)
    (hs : Region.noSelect ops = true) (hf : Region.free md ops listed i = true) (hr : (Region.ready md ops listed).contains i = true)
    (hQ : ∀ c a w, Q (.panic c) (a.put d undef) w → Q (.panic c) a w) (hw : Region.wanted ⟨d, op, ty, pos, af, g⟩ (yielded ops a.tmps) = false) (hS : S w)
    (h : wpAnyH P md ops Q S fuel (listed.setIfInBounds i true) (a.put d undef) w) : wpAnyH P md ops Q S (fuel + 1) listed a w :=
  wpAnyH_take hi hs hf hr hQ (Or.inr ⟨hw, rfl⟩) hS h

set_option maxRecDepth 100000 in
set_option maxHeartbeats 2000000 in
theorem rsaEqual_f (Q1 Q2 P1 P2 : Nat) (e1 e2 : Int) (D1 D2 : Nat → Int) (w : World) (h1 : Digs D1) (h2 : Digs D2) (k1 : KeyAt w Q1 P1 e1) (k2 : KeyAt w Q2 P2 e2) (i1 : IntAt w P1 D1) (i2 : IntAt w P2 D2) (hp : ¬ ∀ t, D1 t = D2 t) :
    Calls Try.prog 46 #[.pointer (some ⟨Q1, 0, none⟩), .iface 28 (.pointer (some ⟨Q2, 0, none⟩))] w (Decides ((∀ t, D1 t = D2 t) ∧ e1 = e2) w) := by
  have t1 := tb28
  have c0 := k1.c0
  have c1 := k1.c1
  have d0 := k2.c0
  have d1 := k2.c1
  have l1 := k1.1
  have l2 := k2.1
  have big := bigEq_any P1 P2 D1 D2 w.drew h1 h2 (i1.below ((Below.refl w.heap.size w).drew) (Nat.le_refl _)) (i2.below ((Below.refl w.heap.size w).drew) (Nat.le_refl _))
  clear k1 k2 i1 i2 h1 h2
  have BIG : Hid (∀ wx : World, wx = w.drew → Calls Try.prog 48 #[.pointer (some ⟨P1, 0, none⟩), .pointer (some ⟨P2, 0, none⟩)] wx fun e w' => e = .returned (.bool false) ∧ Below w.drew.heap.size w.drew w') := fun wx hwx => by
    subst hwx
    exact big.mono fun e w' ⟨b, he, hb, hB⟩ => ⟨by
      rw [he]
      cases b with
      | false => rfl
      | true => exact absurd (hb.1 rfl) hp, hB⟩
  have HP : Hid (¬ ∀ t, D1 t = D2 t) := hp
  clear big hp
  go_enter Try.func46, Try.ntmps46
  go_wp2
  refine wp_region_held_drew (S := (fun w' => w'.cell? ⟨Q1, 0, none⟩ = some (.pointer (some ⟨P1, 0, none⟩)) ∧ w'.cell? ⟨Q1, 1, none⟩ = some (.int .i64 e1) ∧ w'.cell? ⟨Q2, 0, none⟩ = some (.pointer (some ⟨P2, 0, none⟩)) ∧ w'.cell? ⟨Q2, 1, none⟩ = some (.int .i64 e2))) (by kernel_rfl) (by simp [go_sem, *]) (fun hHeld => ?_)
  refine takeH 0 (.pointer (some ⟨Q1, 0, none⟩)) rfl (by kernel_rfl) (by kernel_rfl) (by kernel_rfl) (fun _ _ _ h => h) (by rfl) (fun wz hz => by (try dsimp only at hz); go_simp) (by assumption) ?_
  simp only [Act.put, List.setIfInBounds_toArray, List.set_cons_zero, List.set_cons_succ]
  refine takeH 1 (.pointer (some ⟨Q1, 0, none⟩)) rfl (by kernel_rfl) (by kernel_rfl) (by kernel_rfl) (fun _ _ _ h => h) (by rfl) (fun wz hz => by (try dsimp only at hz); go_simp) (by assumption) ?_
  simp only [Act.put, List.setIfInBounds_toArray, List.set_cons_zero, List.set_cons_succ]
  refine takeH 2 (.pointer (some ⟨Q1, 0, none⟩)) rfl (by kernel_rfl) (by kernel_rfl) (by kernel_rfl) (fun _ _ _ h => h) (by rfl) (fun wz hz => by (try dsimp only at hz); go_simp) (by assumption) ?_
  simp only [Act.put, List.setIfInBounds_toArray, List.set_cons_zero, List.set_cons_succ]
  refine takeH 3 (.pointer (some ⟨P1, 0, none⟩)) rfl (by kernel_rfl) (by kernel_rfl) (by kernel_rfl) (fun _ _ _ h => h) (by rfl) (fun wz hz => by (try dsimp only at hz); go_simp) (by assumption) ?_
  simp only [Act.put, List.setIfInBounds_toArray, List.set_cons_zero, List.set_cons_succ]
  refine takeH 4 (.pointer (some ⟨Q2, 0, none⟩)) rfl (by kernel_rfl) (by kernel_rfl) (by kernel_rfl) (fun _ _ _ h => h) (by rfl) (fun wz hz => by (try dsimp only at hz); go_simp) (by assumption) ?_
  simp only [Act.put, List.setIfInBounds_toArray, List.set_cons_zero, List.set_cons_succ]
  refine takeH 5 (.pointer (some ⟨Q2, 0, none⟩)) rfl (by kernel_rfl) (by kernel_rfl) (by kernel_rfl) (fun _ _ _ h => h) (by rfl) (fun wz hz => by (try dsimp only at hz); go_simp) (by assumption) ?_
  simp only [Act.put, List.setIfInBounds_toArray, List.set_cons_zero, List.set_cons_succ]
  refine takeH 6 (.pointer (some ⟨Q2, 0, none⟩)) rfl (by kernel_rfl) (by kernel_rfl) (by kernel_rfl) (fun _ _ _ h => h) (by rfl) (fun wz hz => by (try dsimp only at hz); go_simp) (by assumption) ?_
  simp only [Act.put, List.setIfInBounds_toArray, List.set_cons_zero, List.set_cons_succ]
  refine takeH 7 (.pointer (some ⟨P2, 0, none⟩)) rfl (by kernel_rfl) (by kernel_rfl) (by kernel_rfl) (fun _ _ _ h => h) (by rfl) (fun wz hz => by (try dsimp only at hz); go_simp) (by assumption) ?_
  simp only [Act.put, List.setIfInBounds_toArray, List.set_cons_zero, List.set_cons_succ]
  refine wpAnyH_ready (rs := [8]) (by kernel_rfl) (by simp) ?_
  refine AllReadyH.cons (o := ⟨_, _, _, _, _, _⟩) rfl (fun K hK => ?_) AllReadyH.nil
  go_simp
  refine (BIG.out _ rfl).mono ?_
  rintro e w1 ⟨rfl, hB1⟩
  have hS1 : w1.cell? ⟨Q1, 0, none⟩ = some (.pointer (some ⟨P1, 0, none⟩)) ∧ w1.cell? ⟨Q1, 1, none⟩ = some (.int .i64 e1) ∧ w1.cell? ⟨Q2, 0, none⟩ = some (.pointer (some ⟨P2, 0, none⟩)) ∧ w1.cell? ⟨Q2, 1, none⟩ = some (.int .i64 e2) := ⟨(hB1.cell (p := ⟨Q1, 0, none⟩) l1).trans c0, (hB1.cell (p := ⟨Q1, 1, none⟩) l1).trans c1, (hB1.cell (p := ⟨Q2, 0, none⟩) l2).trans d0, (hB1.cell (p := ⟨Q2, 1, none⟩) l2).trans d1⟩
  go_wp2_with fail
  refine hK.out _ _ hS1 (fun hHeld => ?_)
  clear hK K
  refine takeH 9 (.bool false) rfl (by kernel_rfl) (by kernel_rfl) (by kernel_rfl) (fun _ _ _ h => h) (by rfl) (fun wz hz => by (try dsimp only at hz); go_simp) (by assumption) ?_
  simp only [Act.put, List.setIfInBounds_toArray, List.set_cons_zero, List.set_cons_succ]
  refine skipH 10 rfl (by kernel_rfl) (by kernel_rfl) (by kernel_rfl) (fun _ _ _ h => h) (by rfl) (by assumption) ?_
  simp only [Act.put, List.setIfInBounds_toArray, List.set_cons_zero, List.set_cons_succ]
  refine skipH 11 rfl (by kernel_rfl) (by kernel_rfl) (by kernel_rfl) (fun _ _ _ h => h) (by rfl) (by assumption) ?_
  simp only [Act.put, List.setIfInBounds_toArray, List.set_cons_zero, List.set_cons_succ]
  refine skipH 12 rfl (by kernel_rfl) (by kernel_rfl) (by kernel_rfl) (fun _ _ _ h => h) (by rfl) (by assumption) ?_
  simp only [Act.put, List.setIfInBounds_toArray, List.set_cons_zero, List.set_cons_succ]
  refine skipH 13 rfl (by kernel_rfl) (by kernel_rfl) (by kernel_rfl) (fun _ _ _ h => h) (by rfl) (by assumption) ?_
  simp only [Act.put, List.setIfInBounds_toArray, List.set_cons_zero, List.set_cons_succ]
  refine skipH 14 rfl (by kernel_rfl) (by kernel_rfl) (by kernel_rfl) (fun _ _ _ h => h) (by rfl) (by assumption) ?_
  simp only [Act.put, List.setIfInBounds_toArray, List.set_cons_zero, List.set_cons_succ]
  refine skipH 15 rfl (by kernel_rfl) (by kernel_rfl) (by kernel_rfl) (fun _ _ _ h => h) (by rfl) (by assumption) ?_
  simp only [Act.put, List.setIfInBounds_toArray, List.set_cons_zero, List.set_cons_succ]
  refine skipH 16 rfl (by kernel_rfl) (by kernel_rfl) (by kernel_rfl) (fun _ _ _ h => h) (by rfl) (by assumption) ?_
  simp only [Act.put, List.setIfInBounds_toArray, List.set_cons_zero, List.set_cons_succ]
  refine skipH 17 rfl (by kernel_rfl) (by kernel_rfl) (by kernel_rfl) (fun _ _ _ h => h) (by rfl) (by assumption) ?_
  simp only [Act.put, List.setIfInBounds_toArray, List.set_cons_zero, List.set_cons_succ]
  refine skipH 18 rfl (by kernel_rfl) (by kernel_rfl) (by kernel_rfl) (fun _ _ _ h => h) (by rfl) (by assumption) ?_
  simp only [Act.put, List.setIfInBounds_toArray, List.set_cons_zero, List.set_cons_succ]
  refine takeH 19 (.bool false) rfl (by kernel_rfl) (by kernel_rfl) (by kernel_rfl) (fun _ _ _ h => h) (by rfl) (fun wz hz => by (try dsimp only at hz); go_simp) (by assumption) ?_
  simp only [Act.put, List.setIfInBounds_toArray, List.set_cons_zero, List.set_cons_succ]
  refine takeH 20 (.bool false) rfl (by kernel_rfl) (by kernel_rfl) (by kernel_rfl) (fun _ _ _ h => h) (by rfl) (fun wz hz => by (try dsimp only at hz); go_simp) (by assumption) ?_
  simp only [Act.put, List.setIfInBounds_toArray, List.set_cons_zero, List.set_cons_succ]
  refine wpAnyH_done (by kernel_rfl) ?_ _
  go_wp2
  go_ret
  exact ⟨false, rfl, ⟨fun h => (by cases h), fun h => absurd h.1 HP.out⟩, Bnx (Below.refl w.heap.size w).drew hB1⟩

theorem rsaEqual_any (Q1 Q2 P1 P2 : Nat) (e1 e2 : Int) (D1 D2 : Nat → Int) (w : World) (h1 : Digs D1) (h2 : Digs D2) (k1 : KeyAt w Q1 P1 e1) (k2 : KeyAt w Q2 P2 e2) (i1 : IntAt w P1 D1) (i2 : IntAt w P2 D2) :
    Calls Try.prog 46 #[.pointer (some ⟨Q1, 0, none⟩), .iface 28 (.pointer (some ⟨Q2, 0, none⟩))] w (Decides ((∀ t, D1 t = D2 t) ∧ e1 = e2) w) :=
  (Classical.em (∀ t, D1 t = D2 t)).elim (rsaEqual_t Q1 Q2 P1 P2 e1 e2 D1 D2 w h1 h2 k1 k2 i1 i2) (rsaEqual_f Q1 Q2 P1 P2 e1 e2 D1 D2 w h1 h2 k1 k2 i1 i2)
end Go.Proofs.Qxb6608702a
