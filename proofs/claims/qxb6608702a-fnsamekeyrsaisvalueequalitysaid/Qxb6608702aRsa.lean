import Derived.Test.Qxb6608702aOutB
import Derived.LaidEql
import Derived.Deep.RegionHeld3
import Derived.Deep.RegionWith
namespace Go.Proofs.Qxb6608702a
open Go.RowKit

theorem rev_byt {D : Nat → Int} (h : DByt D) (S : Nat) : Byt S (rev D S) := fun _ _ => h _
theorem sig_small {D : Nat → Int} {S : Nat} (h : Sig D S) (h0 : ∀ t, 65536 ≤ t → D t = 0) : S ≤ 65536 := by
  rcases h.2 with e | e
  · omega
  · rcases Nat.lt_or_ge 65536 S with g | g
    · exact absurd (h0 (S - 1) (by omega)) e
    · exact g
theorem same_iff {D1 D2 : Nat → Int} {S1 S2 : Nat} (h1 : Sig D1 S1) (h2 : Sig D2 S2) : sameB S1 (rev D1 S1) S2 (rev D2 S2) = true ↔ ∀ t, D1 t = D2 t := by
  constructor
  · intro h t
    simp [sameB] at h
    obtain ⟨e, he⟩ := h
    by_cases ht : t < S1
    · have := he (S1 - 1 - t) (by omega)
      unfold rev at this
      rw [show S1 - 1 - (S1 - 1 - t) = t by omega, ← e, show S1 - 1 - (S1 - 1 - t) = t by omega] at this
      exact this
    · rw [h1.1 t (by omega), h2.1 t (by omega)]
  · intro h
    have e : D1 = D2 := funext h
    subst e
    obtain rfl := sig_unique h1 h2
    exact sameB_all (fun _ _ => rfl)

/-- It returns whether the two numbers are one. -/
def Decides (p : Prop) (w : World) (e : Ending) (w' : World) : Prop := ∃ b : Bool, e = .returned (.bool b) ∧ (b = true ↔ p) ∧ Below w.heap.size w w'

/-- The digits of a number that the law builds. -/
structure Digs (D : Nat → Int) : Prop where
  byt : DByt D
  small : ∀ t, 65536 ≤ t → D t = 0

set_option maxHeartbeats 1000000 in
theorem bigEq_any (P1 P2 : Nat) (D1 D2 : Nat → Int) (w : World) (h1 : Digs D1) (h2 : Digs D2) (i1 : IntAt w P1 D1) (i2 : IntAt w P2 D2) :
    Calls Try.prog 48 #[.pointer (some ⟨P1, 0, none⟩), .pointer (some ⟨P2, 0, none⟩)] w (Decides (∀ t, D1 t = D2 t) w) := by
  go_enter Try.func48, Try.ntmps48
  go_wp2_with fail
  refine (bytes49 P1 D1 w h1.byt i1).mono ?_
  rintro e w1 ⟨v1, S1, rfl, r1, s1, B1⟩
  have i2' := i2.below B1 (Nat.le_refl _)
  go_wp2_with fail
  refine (bytes49 P2 D2 w1 h2.byt i2').mono ?_
  rintro e w2 ⟨v2, S2, rfl, r2, s2, B2⟩
  have r1' := r1.below B2 (Nat.le_refl _)
  have B3 := Bnx B1 B2
  have k5 := b2i_eq (sameB S1 (rev D1 S1) S2 (rev D2 S2))
  have H : Hid (sameB S1 (rev D1 S1) S2 (rev D2 S2) = true ↔ ∀ t, D1 t = D2 t) := same_iff s1 s2
  have L1 := sig_small s1 h1.small
  have L2 := sig_small s2 h2.small
  clear r1 i1 i2 i2' B1 B2 s1 s2
  go_wp2_with fail
  refine (ctc42_any v1 v2 S1 S2 (rev D1 S1) (rev D2 S2) w2 L1 L2 r1' r2 (rev_byt h1.byt S1) (rev_byt h2.byt S2)).mono ?_
  rintro e w3 ⟨rfl, nq, rfl⟩
  go_wp2
  go_ret
  exact ⟨_, rfl, H.out, Bdrew B3 _⟩

/-- A public key in block Q: its modulus in block P, its exponent. -/
def KeyAt (w : World) (Q P : Nat) (e : Int) : Prop := Q < w.heap.size ∧ w.heap[Q]? = some (.cells #[.pointer (some ⟨P, 0, none⟩), .int .i64 e] 36)
theorem KeyAt.below {w w' : World} {Q P : Nat} {e : Int} (h : KeyAt w Q P e) {B : Nat} (hB : Below B w w') (hlt : w.heap.size ≤ B) : KeyAt w' Q P e :=
  ⟨Nat.lt_of_lt_of_le h.1 hB.size, (hB.block Q (Nat.lt_of_lt_of_le h.1 hlt)).trans h.2⟩
theorem KeyAt.c0 {w : World} {Q P : Nat} {e : Int} (h : KeyAt w Q P e) : w.cell? ⟨Q, 0, none⟩ = some (.pointer (some ⟨P, 0, none⟩)) := by simp [World.cell?, h.2]
theorem KeyAt.c1 {w : World} {Q P : Nat} {e : Int} (h : KeyAt w Q P e) : w.cell? ⟨Q, 1, none⟩ = some (.int .i64 e) := by simp [World.cell?, h.2]
theorem KeyAt.new (w : World) (P : Nat) (e : Int) : KeyAt (w.alloc (.cells #[.pointer (some ⟨P, 0, none⟩), .int .i64 e] 36)) w.heap.size P e := ⟨by simp, by show (w.heap.push _)[w.heap.size]? = _; simp⟩

theorem tb28 (v : Value) (w : World) : (Instr.typeAssert (.iface 28 v) 37 28 true).run Try.prog w = .ok (.tuple #[v, .bool true]) w := by kernel_rfl
theorem tb38 (v : Value) (w : World) : (Instr.typeAssert (.iface 28 v) 37 38 true).run Try.prog w = .ok (.tuple #[.pointer none, .bool false]) w := by kernel_rfl
theorem tb39 (v : Value) (w : World) : (Instr.typeAssert (.iface 28 v) 37 39 true).run Try.prog w = .ok (.tuple #[.iface 28 v, .bool true]) w := by kernel_rfl

set_option maxRecDepth 100000 in
set_option maxHeartbeats 2000000 in
theorem rsaEqual_t (Q1 Q2 P1 P2 : Nat) (e1 e2 : Int) (D1 D2 : Nat → Int) (w : World) (h1 : Digs D1) (h2 : Digs D2) (k1 : KeyAt w Q1 P1 e1) (k2 : KeyAt w Q2 P2 e2) (i1 : IntAt w P1 D1) (i2 : IntAt w P2 D2) (hp : ∀ t, D1 t = D2 t) :
    Calls Try.prog 46 #[.pointer (some ⟨Q1, 0, none⟩), .iface 28 (.pointer (some ⟨Q2, 0, none⟩))] w (Decides ((∀ t, D1 t = D2 t) ∧ e1 = e2) w) := by
  have t1 := tb28
  have c0 := k1.c0
  have c1 := k1.c1
  have d0 := k2.c0
  have d1 := k2.c1
  have l1 := k1.1
  have l2 := k2.1
  have big := bigEq_any P1 P2 D1 D2 w.drew h1 h2 (i1.below ((Below.refl w.heap.size w).drew) (Nat.le_refl _)) (i2.below ((Below.refl w.heap.size w).drew) (Nat.le_refl _))
  clear k1 k2 i1 i2 h1 h2
  have BIG : Hid (Calls Try.prog 48 #[.pointer (some ⟨P1, 0, none⟩), .pointer (some ⟨P2, 0, none⟩)] w.drew fun e w' => e = .returned (.bool true) ∧ Below w.drew.heap.size w.drew w') := big.mono fun e w' ⟨b, he, hb, hB⟩ => ⟨by rw [he, hb.2 hp], hB⟩
  have HP : Hid (∀ t, D1 t = D2 t) := hp
  clear big hp
  go_enter Try.func46, Try.ntmps46
  go_wp2
  go_region_held3 (fun w' => w'.cell? ⟨Q1, 0, none⟩ = some (.pointer (some ⟨P1, 0, none⟩)) ∧ w'.cell? ⟨Q1, 1, none⟩ = some (.int .i64 e1) ∧ w'.cell? ⟨Q2, 0, none⟩ = some (.pointer (some ⟨P2, 0, none⟩)) ∧ w'.cell? ⟨Q2, 1, none⟩ = some (.int .i64 e2))
    (first | exact hS1 | (simp [go_sem, *]; done))
    (first | (go_at_call 48; refine BIG.out.mono ?_; rintro e w1 ⟨rfl, hB1⟩; have hS1 : w1.cell? ⟨Q1, 0, none⟩ = some (.pointer (some ⟨P1, 0, none⟩)) ∧ w1.cell? ⟨Q1, 1, none⟩ = some (.int .i64 e1) ∧ w1.cell? ⟨Q2, 0, none⟩ = some (.pointer (some ⟨P2, 0, none⟩)) ∧ w1.cell? ⟨Q2, 1, none⟩ = some (.int .i64 e2) := ⟨(hB1.cell (p := ⟨Q1, 0, none⟩) l1).trans c0, (hB1.cell (p := ⟨Q1, 1, none⟩) l1).trans c1, (hB1.cell (p := ⟨Q2, 0, none⟩) l2).trans d0, (hB1.cell (p := ⟨Q2, 1, none⟩) l2).trans d1⟩))
  go_wp2
  go_ret
  exact ⟨e1 == e2, rfl, by simp [HP.out], Bnx (Below.refl w.heap.size w).drew hB1⟩
end Go.Proofs.Qxb6608702a
