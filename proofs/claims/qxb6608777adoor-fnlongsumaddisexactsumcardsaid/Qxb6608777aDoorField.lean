import Derived.Test.Qxb6608777aDoorSum
import Derived.Deep.RegionHeld3
namespace Go.Proofs.Qxb6608777aDoor
open Go.RowKit

/-- A new long sum. -/
def z74 : Array Value := #[.int .u64 0, .int .u64 0, .int .u64 0, .int .u64 0, .int .u64 0, .int .u64 0, .int .u64 0, .int .u64 0, .int .u64 0, .int .u64 0, .int .u64 0, .int .u64 0, .int .u64 0, .int .u64 0, .int .u64 0, .int .u64 0, .int .u64 0, .int .u64 0, .int .u64 0, .int .u64 0, .int .u64 0, .int .u64 0, .int .u64 0, .int .u64 0, .int .u64 0, .int .u64 0, .int .u64 0, .int .u64 0, .int .u64 0, .int .u64 0, .int .u64 0, .int .u64 0, .int .u64 0, .int .u64 0, .int .u64 0, .int .u64 0, .int .u64 0, .int .u64 0, .int .u64 0, .int .u64 0, .int .u64 0, .int .u64 0, .int .u64 0, .int .u64 0, .int .u64 0, .int .u64 0, .int .u64 0, .int .u64 0, .int .u64 0, .int .u64 0, .int .u64 0, .int .u64 0, .int .u64 0, .int .u64 0, .int .u64 0, .int .u64 0, .int .u64 0, .int .u64 0, .int .u64 0, .int .u64 0, .int .u64 0, .int .u64 0, .int .u64 0, .int .u64 0, .int .u64 0, .int .u64 0, .int .u64 0, .int .u64 0, .int .u64 0, .int .u64 0, .int .u64 0, .int .u64 0, .int .i64 0, .int .i64 0]
theorem zv40 (w : World) : (zeroValue 40).run Tryd.prog w = .ok (.agg z74) w := by kernel_rfl
theorem z74_lo (k : Nat) (h : k < 72) : z74[k]? = some (.int .u64 0) := by
  have e : z74 = Array.replicate 72 (.int .u64 0) ++ #[.int .i64 0, .int .i64 0] := rfl
  rw [e, Array.getElem?_append_left (by simp; omega), Array.getElem?_replicate, if_pos h]
theorem LS.new (w : World) : LS (w.alloc (.cells z74 40)) w.heap.size 0 0 0 0 := by
  have R := Row.new w z74 40 72 (fun _ => .int .u64 0) z74_lo
  have hh : (w.alloc (.cells z74 40)).heap[w.heap.size]? = some (.cells z74 40) := by show (w.heap.push _)[w.heap.size]? = _; simp
  refine ⟨by simp, fun k hk => ?_, fun k hk => ?_, ?_, by simp [go_sem], ?_, by simp [go_sem]⟩
  · have := R k (by omega); rw [zero_wd]; exact this
  · have := R (36 + k) (by omega); rw [Nat.zero_add] at this; rw [zero_wd]; exact this
  · unfold World.cell?; rw [hh]; rfl
  · unfold World.cell?; rw [hh]; rfl

set_option maxRecDepth 100000 in
set_option maxHeartbeats 2000000 in
theorem new_any (w : World) : Calls Tryd.prog 6 #[] w fun e w' => e = .returned (.pointer (some ⟨w.heap.size, 0, none⟩)) ∧ w' = w.alloc (.cells z74 40) := by
  have k := zv40
  go_enter Tryd.func6, Tryd.ntmps6
  go_wp2
  go_ret
  exact ⟨rfl, rfl⟩

theorem takeH {P : Program} {md : Region.Mode} {ops : Array Oper} {Q : Exit → Act → World → Prop} {S : World → Prop} (i : Nat) {d : Option Tmp} {op : Op} {ty : TypeId} {pos : String} {af : Array Edge} {g : Option (Nat × Bool)} (v : Value) {fuel : Nat} {listed : Array Bool} {a : Act} {w : World} (hi : ops[i]? = some ⟨d, op, ty, pos, af, g⟩)
    (hs : Region.noSelect ops = true) (hf : Region.free md ops listed i = true) (hr : (Region.ready md ops listed).contains i = true)
    (hQ : ∀ c a w, Q (.panic c) (a.put d v) w → Q (.panic c) a w) (hw : Region.wanted ⟨d, op, ty, pos, af, g⟩ (yielded ops a.tmps) = true) (hy : ∀ w, S w → (execOp a.eval ⟨d, op, ty, pos, af, g⟩).run P w = .ok (.value v) w) (hS : S w)
    (h : wpAnyH P md ops Q S fuel (listed.setIfInBounds i true) (a.put d v) w) : wpAnyH P md ops Q S (fuel + 1) listed a w :=
  wpAnyH_take hi hs hf hr hQ (Or.inl ⟨hw, hy⟩) hS h
theorem run_load30 {op : Oper} {a : Act} {w : World} {x : Operand} {b o P : Nat} (ho : op.op = .load 30 x) (hx : a.eval x = .pointer (some ⟨b, o, none⟩)) (h : Row w b o 36 (wds P)) : (execOp a.eval op).run Tryd.prog w = .ok (.value (.agg (ws P).toArray)) w := by
  unfold execOp
  simp only [ho, hx, Instr.loadAt, Instr.sureAddr, Sem.run_bind, Sem.run_pure, Result.andThen_ok, h.loadV]

theorem Row.thereA {w : World} {Z o : Nat} {F : Nat → Value} (h : Row w Z o 36 F) (P : Nat) : w.there Z o (ws P).toArray.size := by rw [List.size_toArray, ws_len]; exact h.there
/-- What the region of 'Fields' holds on to. -/
def Held (Z P Q lo hi : Nat) (w : World) : Prop := Row w Z 0 36 (wds P) ∧ Row w Z 36 36 (wds Q) ∧ w.cell? ⟨Z, 72, none⟩ = some (.int .i64 (lo : Nat)) ∧ w.cell? ⟨Z, 73, none⟩ = some (.int .i64 (hi : Nat))

theorem results_four {fn : Func} {p q u v : Tmp} {ty : TypeId} {a b : Addr} (h : fn.results = #[.cell p ty, .cell q ty, .tmp u, .tmp v]) (tmps : Array Value) (P : Program) (w : World) (x y : Value) (ha : tmps.getD p undef = .pointer (some a)) (hb : tmps.getD q undef = .pointer (some b)) (hx : (loadVar ty a).run P w = .ok x w) (hy : (loadVar ty b).run P w = .ok y w) :
    (results fn tmps).run P w = .ok (.tuple #[x, y, tmps.getD u undef, tmps.getD v undef]) w := by
  have ha' : tmps[p]?.getD undef = .pointer (some a) := by rw [← ha]; simp
  have hb' : tmps[q]?.getD undef = .pointer (some b) := by rw [← hb]; simp
  simp only [results, h]
  simp [ha', hb', hx, hy, asAddr]
/-- What 'Fields' does. -/
def Fields (P Q lo hi : Nat) (w : World) (e : Ending) (w' : World) : Prop := e = .returned (.tuple #[.agg (ws P).toArray, .agg (ws Q).toArray, .int .i64 (lo : Nat), .int .i64 (hi : Nat)]) ∧ Below w.heap.size w w'
theorem Held.below {Z P Q lo hi B : Nat} {w w' : World} (h : Held Z P Q lo hi w) (hB : Below B w w') (hZ : Z < B) : Held Z P Q lo hi w' :=
  ⟨h.1.below hB hZ, h.2.1.below hB hZ, (hB.cell (p := ⟨Z, 72, none⟩) hZ).trans h.2.2.1, (hB.cell (p := ⟨Z, 73, none⟩) hZ).trans h.2.2.2⟩

set_option maxRecDepth 100000 in
set_option maxHeartbeats 2000000 in
theorem fields_any (Z P Q lo hi : Nat) (w : World) (h : LS w Z P Q lo hi) : Calls Tryd.prog 8 #[.pointer (some ⟨Z, 0, none⟩)] w (Fields P Q lo hi w) := by
  have hZ := h.size
  have h0 : Held Z P Q lo hi w := ⟨h.pos, h.neg, h.low, h.high⟩
  obtain ⟨s1, s2, s3⟩ := pack_start w
  clear h
  go_enter Tryd.func8, Tryd.ntmps8
  go_wp2
  obtain ⟨w2, ey⟩ : ∃ y, y = ((w.alloc (.cells z36 30)).alloc (.cells z36 30)).drew := ⟨_, rfl⟩
  have S2 : Below w.heap.size w w2 := by rw [ey]; exact s1.drew
  have R1 : Row w2 w.heap.size 0 36 (wds 0) := by rw [ey]; exact s2.drew
  have R2 : Row w2 (w.heap.size + 1) 0 36 (wds 0) := by rw [ey]; exact s3.drew
  have O3 : Only w.heap.size w2 (w2.setCells w.heap.size 0 (ws P)) := Only.setCells _ _ 0 (Only.refl _ _)
  have R3 := R1.stored P
  have R4 := R2.only O3 (by omega)
  have S3 := S2.trans (O3.below (Nat.le_refl _))
  obtain ⟨w3, ez⟩ : ∃ y, y = w2.setCells w.heap.size 0 (ws P) := ⟨_, rfl⟩
  rw [← ez] at R3 R4 O3 S3
  have O5 : Only (w.heap.size + 1) w3 (w3.setCells (w.heap.size + 1) 0 (ws Q)) := Only.setCells _ _ 0 (Only.refl _ _)
  have R5 := R4.stored Q
  have R6 := R3.only O5 (by omega)
  have S5 := S3.trans (O5.below (by omega))
  refine wp_region_held_drew (S := Held Z P Q lo hi) (by kernel_rfl) (h0.below s1.drew hZ) (fun hHeld => ?_)
  change wpAnyH _ _ _ _ _ _ _ _ ((w.alloc (.cells z36 30)).alloc (.cells z36 30)).drew
  change Held Z P Q lo hi ((w.alloc (.cells z36 30)).alloc (.cells z36 30)).drew at hHeld
  rw [← ey] at hHeld ⊢
  clear ey s1 s2 s3
  refine takeH 0 (.pointer (some ⟨Z, 0, none⟩)) rfl (by kernel_rfl) (by kernel_rfl) (by kernel_rfl) (fun _ _ _ h => h) (by rfl) (fun wz hz => by (try dsimp only at hz); go_simp) hHeld ?_
  simp only [Act.put, List.setIfInBounds_toArray, List.set_cons_zero, List.set_cons_succ]
  refine takeH 1 (.pointer (some ⟨Z, 0, none⟩)) rfl (by kernel_rfl) (by kernel_rfl) (by kernel_rfl) (fun _ _ _ h => h) (by rfl) (fun wz hz => by (try dsimp only at hz); go_simp) hHeld ?_
  simp only [Act.put, List.setIfInBounds_toArray, List.set_cons_zero, List.set_cons_succ]
  refine takeH 2 (.pointer (some ⟨Z, 0, none⟩)) rfl (by kernel_rfl) (by kernel_rfl) (by kernel_rfl) (fun _ _ _ h => h) (by rfl) (fun wz hz => by (try dsimp only at hz); go_simp) hHeld ?_
  simp only [Act.put, List.setIfInBounds_toArray, List.set_cons_zero, List.set_cons_succ]
  refine takeH 3 (.agg (ws P).toArray) rfl (by kernel_rfl) (by kernel_rfl) (by kernel_rfl) (fun _ _ _ h => h) (by rfl) (fun wz hz => run_load30 rfl rfl hz.1) hHeld ?_
  simp only [Act.put, List.setIfInBounds_toArray, List.set_cons_zero, List.set_cons_succ]
  refine takeH 4 (.pointer (some ⟨Z, 0, none⟩)) rfl (by kernel_rfl) (by kernel_rfl) (by kernel_rfl) (fun _ _ _ h => h) (by rfl) (fun wz hz => by (try dsimp only at hz); go_simp) hHeld ?_
  simp only [Act.put, List.setIfInBounds_toArray, List.set_cons_zero, List.set_cons_succ]
  refine takeH 5 (.pointer (some ⟨Z, 0, none⟩)) rfl (by kernel_rfl) (by kernel_rfl) (by kernel_rfl) (fun _ _ _ h => h) (by rfl) (fun wz hz => by (try dsimp only at hz); go_simp) hHeld ?_
  simp only [Act.put, List.setIfInBounds_toArray, List.set_cons_zero, List.set_cons_succ]
  refine takeH 6 (.pointer (some ⟨Z, 36, none⟩)) rfl (by kernel_rfl) (by kernel_rfl) (by kernel_rfl) (fun _ _ _ h => h) (by rfl) (fun wz hz => by (try dsimp only at hz); go_simp) hHeld ?_
  simp only [Act.put, List.setIfInBounds_toArray, List.set_cons_zero, List.set_cons_succ]
  refine takeH 7 (.agg (ws Q).toArray) rfl (by kernel_rfl) (by kernel_rfl) (by kernel_rfl) (fun _ _ _ h => h) (by rfl) (fun wz hz => run_load30 rfl rfl hz.2.1) hHeld ?_
  simp only [Act.put, List.setIfInBounds_toArray, List.set_cons_zero, List.set_cons_succ]
  refine takeH 8 (.pointer (some ⟨Z, 0, none⟩)) rfl (by kernel_rfl) (by kernel_rfl) (by kernel_rfl) (fun _ _ _ h => h) (by rfl) (fun wz hz => by (try dsimp only at hz); go_simp) hHeld ?_
  simp only [Act.put, List.setIfInBounds_toArray, List.set_cons_zero, List.set_cons_succ]
  refine takeH 9 (.pointer (some ⟨Z, 0, none⟩)) rfl (by kernel_rfl) (by kernel_rfl) (by kernel_rfl) (fun _ _ _ h => h) (by rfl) (fun wz hz => by (try dsimp only at hz); go_simp) hHeld ?_
  simp only [Act.put, List.setIfInBounds_toArray, List.set_cons_zero, List.set_cons_succ]
  refine takeH 10 (.pointer (some ⟨Z, 72, none⟩)) rfl (by kernel_rfl) (by kernel_rfl) (by kernel_rfl) (fun _ _ _ h => h) (by rfl) (fun wz hz => by (try dsimp only at hz); go_simp) hHeld ?_
  simp only [Act.put, List.setIfInBounds_toArray, List.set_cons_zero, List.set_cons_succ]
  refine takeH 11 (.int .i64 (lo : Nat)) rfl (by kernel_rfl) (by kernel_rfl) (by kernel_rfl) (fun _ _ _ h => h) (by rfl) (fun wz hz => by have hq := hz.2.2.1; clear hz; go_simp) hHeld ?_
  simp only [Act.put, List.setIfInBounds_toArray, List.set_cons_zero, List.set_cons_succ]
  refine takeH 12 (.pointer (some ⟨Z, 0, none⟩)) rfl (by kernel_rfl) (by kernel_rfl) (by kernel_rfl) (fun _ _ _ h => h) (by rfl) (fun wz hz => by (try dsimp only at hz); go_simp) hHeld ?_
  simp only [Act.put, List.setIfInBounds_toArray, List.set_cons_zero, List.set_cons_succ]
  refine takeH 13 (.pointer (some ⟨Z, 0, none⟩)) rfl (by kernel_rfl) (by kernel_rfl) (by kernel_rfl) (fun _ _ _ h => h) (by rfl) (fun wz hz => by (try dsimp only at hz); go_simp) hHeld ?_
  simp only [Act.put, List.setIfInBounds_toArray, List.set_cons_zero, List.set_cons_succ]
  refine takeH 14 (.pointer (some ⟨Z, 73, none⟩)) rfl (by kernel_rfl) (by kernel_rfl) (by kernel_rfl) (fun _ _ _ h => h) (by rfl) (fun wz hz => by (try dsimp only at hz); go_simp) hHeld ?_
  simp only [Act.put, List.setIfInBounds_toArray, List.set_cons_zero, List.set_cons_succ]
  refine takeH 15 (.int .i64 (hi : Nat)) rfl (by kernel_rfl) (by kernel_rfl) (by kernel_rfl) (fun _ _ _ h => h) (by rfl) (fun wz hz => by have hq := hz.2.2.2; clear hz; go_simp) hHeld ?_
  simp only [Act.put, List.setIfInBounds_toArray, List.set_cons_zero, List.set_cons_succ]
  refine wpAnyH_ready (rs := [16]) (by kernel_rfl) (by simp) ?_
  refine AllReadyH.cons (o := ⟨_, _, _, _, _, _⟩) rfl (fun K hK => ?_) AllReadyH.nil
  refine (if_pos (by rfl)).mpr ?_
  refine wp_store_mid 30 _ _ rfl w.heap.size 0 (ws P).toArray rfl rfl (R1.thereA P) (i30'' P) (ws_one P) ?_
  refine hK.out _ _ (hHeld.below (show Below w.heap.size w2 (w2.setCells w.heap.size 0 (ws P)) by rw [← ez]; exact O3.below (Nat.le_refl _)) hZ) (fun hHeld => ?_)
  change wpAnyH _ _ _ _ _ _ _ _ (w2.setCells w.heap.size 0 (ws P))
  change Held Z P Q lo hi (w2.setCells w.heap.size 0 (ws P)) at hHeld
  rw [← ez] at hHeld ⊢
  clear hK K
  refine wpAnyH_ready (rs := [17]) (by kernel_rfl) (by simp) ?_
  refine AllReadyH.cons (o := ⟨_, _, _, _, _, _⟩) rfl (fun K hK => ?_) AllReadyH.nil
  refine (if_pos (by rfl)).mpr ?_
  refine wp_store_mid 30 _ _ rfl (w.heap.size + 1) 0 (ws Q).toArray rfl rfl (R4.thereA Q) (i30'' Q) (ws_one Q) ?_
  refine hK.out _ _ (hHeld.below (O5.below (Nat.le_refl _)) (by omega)) (fun hHeld => ?_)
  change wpAnyH _ _ _ _ _ _ _ _ (w3.setCells (w.heap.size + 1) 0 (ws Q))
  clear hK K
  refine takeH 18 (.int .i64 (lo : Nat)) rfl (by kernel_rfl) (by kernel_rfl) (by kernel_rfl) (fun _ _ _ h => h) (by rfl) (fun wz hz => by (try dsimp only at hz); go_simp) hHeld ?_
  simp only [Act.put, List.setIfInBounds_toArray, List.set_cons_zero, List.set_cons_succ]
  refine takeH 19 (.int .i64 (hi : Nat)) rfl (by kernel_rfl) (by kernel_rfl) (by kernel_rfl) (fun _ _ _ h => h) (by rfl) (fun wz hz => by (try dsimp only at hz); go_simp) hHeld ?_
  simp only [Act.put, List.setIfInBounds_toArray, List.set_cons_zero, List.set_cons_succ]
  refine wpAnyH_done (by kernel_rfl) ?_ _
  go_wp2_with (refine bodyPost_ret (results_four rfl _ _ _ _ _ rfl rfl R6.loadV R5.loadV) rfl ?_; exact ⟨rfl, S5⟩)
end Go.Proofs.Qxb6608777aDoor
