import Derived.Test.Qxb6608777aDoorLow
import Derived.Deep.MidRow
namespace Go.Proofs.Qxb6608777aDoor
open Go.RowKit

/-- The words of a long number, as cells. -/
def wds (P k : Nat) : Value := .int .u64 (wd P k : Nat)
def ws (P : Nat) : List Value := (List.range 36).map (wds P)
theorem ws_len (P : Nat) : (ws P).length = 36 := by unfold ws; simp
theorem ws_get {P j : Nat} {v : Value} (h : (ws P)[j]? = some v) : j < 36 ∧ v = wds P j := by
  have hj : j < 36 := by
    have := (List.getElem?_eq_some_iff.1 h).1
    rw [ws_len] at this; exact this
  refine ⟨hj, ?_⟩
  unfold ws at h
  rw [List.getElem?_map, List.getElem?_range hj] at h
  exact (Option.some.inj h).symm
theorem Row.range {w : World} {Z o P : Nat} (h : Row w Z o 36 (wds P)) : w.rangeAt Z o (ws P) := fun j v hv => by
  obtain ⟨hj, rfl⟩ := ws_get hv
  exact (h j hj).1
theorem Row.there {w : World} {Z o n : Nat} {F : Nat → Value} (h : Row w Z o n F) : w.there Z o n := fun j hj => by
  obtain ⟨h1, h2⟩ := h j hj
  exact ⟨by rw [h1]; rfl, h2⟩
theorem Row.of_range {w : World} {Z o P : Nat} (h : w.rangeAt Z o (ws P)) (t : w.there Z o 36) : Row w Z o 36 (wds P) := fun k hk =>
  ⟨h k (wds P k) (by unfold ws; rw [List.getElem?_map, List.getElem?_range hk]; rfl), (t k hk).2⟩
theorem ws_one (P : Nat) : (ws P).toArray.all (·.oneCell') = true := all_oneCell_toArray (fun v hv => by
  unfold ws at hv
  obtain ⟨k, _, rfl⟩ := List.mem_map.1 hv
  rfl)
theorem und30 : Tryd.prog.underlying 30 = some (.array 36 29) := by kernel_rfl
theorem i30 : (Tryd.prog.info? 30).map (·.size) = some 36 := by kernel_rfl
theorem i30' (P : Nat) : (Tryd.prog.info? 30).map (·.size) = some (ws P).length := by rw [ws_len]; exact i30
theorem i30'' (P : Nat) : (Tryd.prog.info? 30).map (·.size) = some (ws P).toArray.size := by rw [List.size_toArray, ws_len]; exact i30
theorem Row.loadV {w : World} {Z o P : Nat} (h : Row w Z o 36 (wds P)) : (loadVar 30 ⟨Z, o, none⟩).run Tryd.prog w = .ok (.agg (ws P).toArray) w :=
  run_loadVar_mid w Z o 30 (ws P) _ h.range und30 rfl (i30' P)
theorem Row.load {w : World} {Z o P : Nat} (h : Row w Z o 36 (wds P)) : (Instr.loadAt 30 (.pointer (some ⟨Z, o, none⟩))).run Tryd.prog w = .ok (.agg (ws P).toArray) w :=
  run_loadAt_mid w Z o 30 (ws P) _ h.range und30 rfl (i30' P)
theorem Row.store {w : World} {Z o : Nat} {F : Nat → Value} (P : Nat) (h : Row w Z o 36 F) : (Instr.storeAt 30 (.pointer (some ⟨Z, o, none⟩)) (.agg (ws P).toArray)).run Tryd.prog w = .ok () (w.setCells Z o (ws P)) :=
  run_storeAt_mid w Z o 30 (ws P).toArray (by rw [List.size_toArray, ws_len]; exact h.there) (i30'' P) (ws_one P)
theorem Row.storeC {w : World} {Z o : Nat} {F : Nat → Value} (P : Nat) (h : Row w Z o 36 F) : (storeCells ⟨Z, o, none⟩ (ws P)).run Tryd.prog w = .ok () (w.setCells Z o (ws P)) := by
  have := run_storeCells_cells (P := Tryd.prog) Z o (ws P) 0 w (fun j hj => (h.there j (by rw [ws_len] at hj; exact hj)).1) (fun j hj => (h.there j (by rw [ws_len] at hj; exact hj)).2)
    (fun v hv => by
      unfold ws at hv
      obtain ⟨k, _, rfl⟩ := List.mem_map.1 hv
      rfl)
  exact this
theorem Row.stored {w : World} {Z o : Nat} {F : Nat → Value} (P : Nat) (h : Row w Z o 36 F) : Row (w.setCells Z o (ws P)) Z o 36 (wds P) :=
  Row.of_range (World.rangeAt_setCells_same w Z o (ws P) (by rw [ws_len]; exact h.there)) (World.there_setCells h.there Z o (ws P))
theorem Only.setCells (Z : Nat) : ∀ (vs : List Value) (o : Nat) {a w : World}, Only Z a w → Only Z a (w.setCells Z o vs)
  | [], _, _, _, h => h
  | v :: r, o, _, w, h => by rw [World.setCells]; exact Only.setCells Z r (o + 1) (h.set o v)

/-- Thirty-six zeros. -/
def z36 : Array Value := #[.int .u64 0, .int .u64 0, .int .u64 0, .int .u64 0, .int .u64 0, .int .u64 0, .int .u64 0, .int .u64 0, .int .u64 0, .int .u64 0, .int .u64 0, .int .u64 0, .int .u64 0, .int .u64 0, .int .u64 0, .int .u64 0, .int .u64 0, .int .u64 0, .int .u64 0, .int .u64 0, .int .u64 0, .int .u64 0, .int .u64 0, .int .u64 0, .int .u64 0, .int .u64 0, .int .u64 0, .int .u64 0, .int .u64 0, .int .u64 0, .int .u64 0, .int .u64 0, .int .u64 0, .int .u64 0, .int .u64 0, .int .u64 0]
theorem z36_at (k : Nat) (h : k < 36) : z36[k]? = some (.int .u64 0) := by
  have e : z36 = Array.replicate 36 (.int .u64 0) := rfl
  rw [e, Array.getElem?_replicate, if_pos h]
theorem zero_wd (k : Nat) : wds 0 k = .int .u64 0 := by unfold wds wd; rw [Nat.zero_div]; rfl
theorem Row.new (w : World) (A : Array Value) (t : TypeId) (n : Nat) (F : Nat → Value) (h : ∀ k, k < n → A[k]? = some (F k)) : Row (w.alloc (.cells A t)) w.heap.size 0 n F := fun k hk => by
  rw [Nat.zero_add]
  refine ⟨?_, by simp [go_sem]⟩
  have : (w.alloc (.cells A t)).heap[w.heap.size]? = some (.cells A t) := by show (w.heap.push _)[w.heap.size]? = _; simp
  unfold World.cell?
  rw [this]
  exact h k hk
theorem Row.z36 (w : World) : Row (w.alloc (.cells z36 30)) w.heap.size 0 36 (wds 0) := Row.new w _ _ _ _ (fun k hk => by rw [z36_at k hk, zero_wd])
theorem below_alloc (w : World) (o : Obj) : Below w.heap.size w (w.alloc o) := Below.alloc (Below.refl _ w) (Nat.le_refl _) o
theorem size_alloc (w : World) (o : Obj) : (w.alloc o).heap.size = w.heap.size + 1 := by simp

theorem and_one_i (t : Nat) (ht : t < 1000000) : (bits BinOp.and IntKind.i64 (t : Int) 1 == 1) = decide (t % 2 = 1) := by
  have e : bits BinOp.and IntKind.i64 (t : Int) 1 = ((t % 2 : Nat) : Int) := by
    show IntKind.i64.wrap ((BitVec.ofInt 64 (t : Int) &&& BitVec.ofInt 64 ((1 : Nat) : Int)).toNat : Int) = _
    rw [BitVec.toNat_and, ofInt_64 t (by omega), ofInt_64 1 (by omega), Nat.and_one_is_mod, IntKind.wrap_i64]
    omega
  rw [e]
  by_cases h : t % 2 = 1
  · rw [h]; rfl
  · have h0 : t % 2 = 0 := by omega
    rw [h0]; rfl
theorem pow_lt (x : Nat) : 2 ^ (x % 64) < 18446744073709551616 := by
  have : 2 ^ (x % 64) < 2 ^ 64 := Nat.pow_lt_pow_right (by omega) (Nat.mod_lt x (by omega))
  omega
theorem wrap_pow (x : Nat) : IntKind.u64.wrap (2 ^ (x % 64)) = ((2 ^ (x % 64) : Nat) : Int) := by
  have h := pow_lt x
  have e : ((2 : Int) ^ (x % 64)) = ((2 ^ (x % 64) : Nat) : Int) := by simp
  rw [e]
  clear e
  generalize (2 : Nat) ^ (x % 64) = y at h ⊢
  exact IntWalk.u64_in _ ⟨by omega, by omega⟩
theorem or_bit (v x : Nat) (hv : v < 18446744073709551616) : bits BinOp.or IntKind.u64 (v : Int) (IntKind.u64.wrap (2 ^ (x % 64))) = ((v ||| 2 ^ (x % 64) : Nat) : Int) := by
  rw [wrap_pow, u64_or_nat v _ hv (pow_lt x)]

/-- In the midst of the sweep. -/
def Swp (w2 wr : World) (O M : Nat) : Prop := Row wr O 0 36 (wds M) ∧ Only O w2 wr
theorem Swp.set {w2 wr : World} {O M p : Nat} (h : Swp w2 wr O M) (hM : M < 2 ^ p) (hp : p < 2304) : Swp w2 (wr.setCell ⟨O, p / 64, none⟩ (.int .u64 (bits BinOp.or IntKind.u64 (wd M (p / 64) : Nat) (IntKind.u64.wrap (2 ^ (p % 64)))))) O (M + 2 ^ p) := by
  refine ⟨?_, h.2.set _ _⟩
  have := h.1.set (q := p / 64) (G := wds (M + 2 ^ p)) (v := .int .u64 (bits BinOp.or IntKind.u64 (wd M (p / 64) : Nat) (IntKind.u64.wrap (2 ^ (p % 64))))) (fun i hi => by
    unfold wds
    by_cases e : i = p / 64
    · subst e; rw [if_pos rfl, or_bit _ _ (wd_lt _ _), bit_here hM]
    · rw [if_neg e, bit_there hM e]) (by omega)
  rw [Nat.zero_add] at this
  exact this

/-- What packing does. -/
def Packs (T : Nat) (w : World) (e : Ending) (w' : World) : Prop := e = .returned (.agg (ws T).toArray) ∧ Below w.heap.size w w'
theorem results_cell {fn : Func} {p : Tmp} {ty : TypeId} {a : Addr} (h : fn.results = #[.cell p ty]) (tmps : Array Value) (P : Program) (w : World) (v : Value) (ha : tmps.getD p undef = .pointer (some a)) (hl : (loadVar ty a).run P w = .ok v w) :
    (results fn tmps).run P w = .ok v w := by
  have ha' : tmps[p]?.getD undef = .pointer (some a) := by rw [← ha]; simp
  simp only [results, h]
  simp [ha', hl, asAddr]

theorem pack_end {w w2 wr : World} {T : Nat} (hB : Below w.heap.size w w2) (hR : Row w2 w.heap.size 0 36 (wds 0)) (h : Swp w2 wr (w.heap.size + 1) T) :
    Row wr w.heap.size 0 36 (wds 0) ∧ Row (wr.setCells w.heap.size 0 (ws T)) w.heap.size 0 36 (wds T) ∧ Below w.heap.size w (wr.setCells w.heap.size 0 (ws T)) := by
  have h1 := hR.only h.2 (by omega)
  exact ⟨h1, h1.stored T, hB.trans ((h.2.below (by omega)).trans ((Only.setCells _ _ 0 (Only.refl _ _)).below (Nat.le_refl _)))⟩
theorem pack_start (w : World) : Below w.heap.size w ((w.alloc (.cells z36 30)).alloc (.cells z36 30)) ∧ Row ((w.alloc (.cells z36 30)).alloc (.cells z36 30)) w.heap.size 0 36 (wds 0) ∧ Row ((w.alloc (.cells z36 30)).alloc (.cells z36 30)) (w.heap.size + 1) 0 36 (wds 0) := by
  have b1 := below_alloc w (.cells z36 30)
  have b2 := below_alloc (w.alloc (.cells z36 30)) (.cells z36 30)
  have r2 := Row.z36 (w.alloc (.cells z36 30))
  rw [size_alloc] at b2 r2
  exact ⟨b1.trans (b2.mono (by omega)), (Row.z36 w).below b2 (by omega), r2⟩

set_option maxRecDepth 100000 in
set_option maxHeartbeats 4000000 in
theorem pack_any (Z T K : Nat) (w : World) (hK : K ≤ 100000) (hT : Hid (T % 2 ^ 2304 = T)) (h : Cols w Z T K) :
    Calls Tryd.prog 11 #[.slice (some ⟨Z, 0, none⟩) 2304 2304] w (Packs T w) := by
  obtain ⟨hZ, C, h1, h2, h3⟩ := h
  obtain ⟨s1, s2, s3⟩ := pack_start w
  have HC : Hid (Row ((w.alloc (.cells z36 30)).alloc (.cells z36 30)) Z 0 2304 (ints C)) := ⟨h1.below s1 hZ⟩
  have HK : Hid (∀ p, p < 2304 → C p ≤ K) := ⟨h2⟩
  have HT : Hid (tot C 2304 = T) := ⟨h3⟩
  have HZ : Hid (Z < w.heap.size) := ⟨hZ⟩
  have HB : Hid (Below w.heap.size w ((w.alloc (.cells z36 30)).alloc (.cells z36 30))) := ⟨s1⟩
  have HR : Hid (Row ((w.alloc (.cells z36 30)).alloc (.cells z36 30)) w.heap.size 0 36 (wds 0)) := ⟨s2⟩
  have HS : Hid (Swp ((w.alloc (.cells z36 30)).alloc (.cells z36 30)) ((w.alloc (.cells z36 30)).alloc (.cells z36 30)) (w.heap.size + 1) (tot C 0 % 2 ^ 0)) := ⟨s3, Only.refl _ _⟩
  clear h1 h2 h3 hZ s1 s2 s3
  go_enter Tryd.func11, Tryd.ntmps11
  go_wp2
  obtain ⟨w2, ey⟩ : ∃ y, y = ((w.alloc (.cells z36 30)).alloc (.cells z36 30)) := ⟨_, rfl⟩
  rw [← ey] at HC HB HR HS
  change Code.wp _ _ _ _ ((w.alloc (.cells z36 30)).alloc (.cells z36 30))
  rw [← ey]
  clear ey
  go_loopw [4, 5] (fun c i wr => ∃ p d : Nat, p ≤ 2304 ∧ d ≤ 100000 ∧ i = .int .i64 p ∧ c = .int .i64 d ∧ Hid (d = tot C p / 2 ^ p) ∧ Hid (Swp w2 wr (w.heap.size + 1) (tot C p % 2 ^ p))) (fun _ i _ => 2304 - (intOf i).toNat)
  case atStart => exact ⟨0, 0, Nat.zero_le _, Nat.zero_le _, rfl, rfl, ⟨by simp [tot]⟩, HS⟩
  case round =>
    obtain ⟨p, d, hp, hd, rfl, rfl, HD, HS⟩ := hrel
    by_cases hlt : p < 2304
    · obtain ⟨t, et⟩ : ∃ t, t = C p + d := ⟨_, rfl⟩
      have HTT : Hid (t = tot C (p + 1) / 2 ^ p) := ⟨by rw [et, HD.out, tot_step]⟩
      have c1 := HK.out p hlt
      have ht : t ≤ 200000 := by omega
      have em : (C p : Int) + (d : Int) = (t : Int) := by omega
      have g0 : (0 : Int) ≤ (p : Int) := by omega
      have g1 : (p : Int) < 2304 := by omega
      have q1 := ((HC.out.only HS.out.2 (by have := HZ.out; omega)) p hlt).1
      rw [Nat.zero_add] at q1
      unfold ints at q1
      have bt := and_one_i t (by omega)
      obtain ⟨d', ed'⟩ : ∃ d', d' = t / 2 := ⟨_, rfl⟩
      have hd' : d' ≤ 100000 := by omega
      have HD' : Hid (d' = tot C (p + 1) / 2 ^ (p + 1)) := ⟨by rw [ed', HTT.out, tot_carry]⟩
      have eh : (t : Int).fdiv (2 ^ min (Int.toNat 1) IntKind.i64.bits) = (d' : Int) := by
        rw [Int.fdiv_eq_ediv_of_nonneg _ (by decide)]
        show (t : Int) / 2 = _
        omega
      have HE2 : Hid ((t : Int) / 2 = (d' : Int)) := ⟨by omega⟩
      clear HD et
      by_cases ho : t % 2 = 1
      · rw [decide_eq_true ho] at bt
        have hM : tot C p % 2 ^ p < 2 ^ p := Nat.mod_lt _ (Nat.two_pow_pos p)
        have HS' : Hid (Swp w2 _ (w.heap.size + 1) (tot C (p + 1) % 2 ^ (p + 1))) := ⟨by rw [tot_low, ← HTT.out, ho, Nat.mul_one]; exact HS.out.set hM hlt⟩
        have r1 := (HS.out.1 (p / 64) (by omega)).1
        have r2 := (HS.out.1 (p / 64) (by omega)).2
        rw [Nat.zero_add] at r1 r2
        unfold wds at r1
        have e1 : (p : Int).tdiv 64 = ((p / 64 : Nat) : Int) := by rw [Int.tdiv_eq_ediv_of_nonneg (by omega)]; omega
        have e2 : (p : Int).tmod 64 = ((p % 64 : Nat) : Int) := by rw [Int.tmod_eq_emod_of_nonneg (by omega)]; omega
        have f0 : (0 : Int) ≤ ((p / 64 : Nat) : Int) := by omega
        have f1 : ((p / 64 : Nat) : Int) < 36 := by omega
        have f2 : (0 : Int) ≤ ((p % 64 : Nat) : Int) := by omega
        have f3 : ((p % 64 : Nat) : Int) < 64 := by omega
        clear HS ho hM
        go_wp2
        go_roundw
        case rel => exact ⟨p + 1, d', by omega, hd', by go_num, congrArg (Value.int .i64) HE2.out, HD', HS'⟩
        case measure => simp [intOf]; omega
      · have ho' : t % 2 = 0 := by omega
        rw [decide_eq_false ho] at bt
        have HS' : Hid (Swp w2 wr (w.heap.size + 1) (tot C (p + 1) % 2 ^ (p + 1))) := ⟨by rw [tot_low, ← HTT.out, ho', Nat.mul_zero, Nat.add_zero]; exact HS.out⟩
        clear HS ho ho'
        go_wp2
        go_roundw
        case rel => exact ⟨p + 1, d', by omega, hd', by go_num, congrArg (Value.int .i64) HE2.out, HD', HS'⟩
        case measure => simp [intOf]; omega
    · have HS' : Hid (Swp w2 wr (w.heap.size + 1) T) := ⟨by have h1 := HS.out; rw [show p = 2304 by omega, HT.out, hT.out] at h1; exact h1⟩
      have g2 : ¬ (p : Int) < 2304 := by omega
      obtain ⟨e1, e2, e3⟩ := pack_end HB.out HR.out HS'.out
      have ld : Hid (Row wr (w.heap.size + 1) 0 36 (wds T)) := ⟨HS'.out.1⟩
      have st := e1.storeC T
      have hl := ws_len T
      have HE : Hid (Row (wr.setCells w.heap.size 0 (ws T)) w.heap.size 0 36 (wds T)) := ⟨e2⟩
      have HF : Hid (Below w.heap.size w (wr.setCells w.heap.size 0 (ws T))) := ⟨e3⟩
      clear HS HD e1 e2 e3 HC HR HB
      go_wp2_with (first
        | (refine wpList_load_mid rfl 30 _ rfl (w.heap.size + 1) 0 rfl (ws T) _ ld.out.range und30 rfl (i30' T) ?_)
        | (refine bodyPost_ret (results_cell rfl _ _ _ _ rfl HE.out.loadV) rfl ?_; exact ⟨rfl, HF.out⟩))
end Go.Proofs.Qxb6608777aDoor
