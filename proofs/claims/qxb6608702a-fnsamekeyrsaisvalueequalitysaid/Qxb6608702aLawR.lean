import Derived.Test.Qxb6608702aMag
import Derived.Test.Qxb6608702aLawE
namespace Go.Proofs.Qxb6608702a
open Go.RowKit

set_option maxHeartbeats 1000000 in
theorem bytesR_yes (x y : Option Addr) (m c n d : Nat) (e1 e2 : Int) (w : World) (hm : m ≤ 65536) (hn : n ≤ 65536) :
    Calls Try.prog 8 #[.slice x m c, .int .i64 e1, .slice y n d, .int .i64 e2] w fun e w' => e = .returned (.bool true) ∧ w = w' := by
  go_enter Try.func8, Try.ntmps8
  go_wp2
  go_ret
  exact ⟨rfl, rfl⟩

/-- Too long: the law returns true at once. -/
theorem lawR_long (x y : Option Addr) (m c n d : Nat) (e1 e2 : Int) (w : World) (hm : m ≤ maxLen) (hn : n ≤ maxLen) (h : 65536 < m ∨ 65536 < n) :
    Calls Try.prog 4 #[.slice x m c, .int .i64 e1, .slice y n d, .int .i64 e2] w fun e w' => e = .returned (.bool true) ∧ Below w.heap.size w w' := by
  unfold maxLen at hm hn
  by_cases h1 : 1048576 < m
  · go_enter Try.func4, Try.ntmps4
    go_wp2
    go_ret
    exact ⟨rfl, Below.refl _ _⟩
  by_cases h2 : 1048576 < n
  · go_enter Try.func4, Try.ntmps4
    go_wp2
    go_ret
    exact ⟨rfl, Below.refl _ _⟩
  by_cases h3 : 1048576 < m + n
  · go_enter Try.func4, Try.ntmps4
    go_wp2
    go_ret
    exact ⟨rfl, Below.refl _ _⟩
  by_cases h4 : 65536 < m
  · go_enter Try.func4, Try.ntmps4
    go_wp2
    go_ret
    exact ⟨rfl, Below.refl _ _⟩
  · have h5 : 65536 < n := by omega
    go_enter Try.func4, Try.ntmps4
    go_wp2
    go_ret
    exact ⟨rfl, Below.refl _ _⟩

theorem two_true {p : Prop} {b : Bool} {e1 e2 : Int} (h : b = true ↔ p ∧ e1 = e2) (hp : p) : b = (e1 == e2) := by
  by_cases he : e1 = e2
  · rw [h.2 ⟨hp, he⟩]; simp [he]
  · have : b = false := by
      cases b with
      | false => rfl
      | true => exact absurd (h.1 rfl).2 he
    rw [this]; simp [he]
theorem two_false {p : Prop} {b : Bool} {e1 e2 : Int} (h : b = true ↔ p ∧ e1 = e2) (hp : ¬ p) : b = false := by
  cases b with
  | false => rfl
  | true => exact absurd (h.1 rfl).1 hp

set_option maxRecDepth 100000 in
set_option maxHeartbeats 4000000 in
theorem lawR (x y : Option Addr) (m c n d : Nat) (e1 e2 : Int) (A B : Nat → Int) (w : World) (hm : m ≤ 65536) (hn : n ≤ 65536) (ha : Came w x m c A) (hb : Came w y n d B) (hA : Byt m A) (hB : Byt n B) :
    Calls Try.prog 4 #[.slice x m c, .int .i64 e1, .slice y n d, .int .i64 e2] w fun e w' => e = .returned (.bool true) ∧ Below w.heap.size w w' := by
  have hnil := neq_nil
  have mk := run_mk1 m hm
  have mk' := run_mk1 n hn
  rcases ha with ⟨rfl, rfl, rfl⟩ | ⟨p, rfl, hp, hpb⟩
  · rcases hb with ⟨rfl, rfl, rfl⟩ | ⟨q, rfl, hq, hqb⟩
    · have HSa : Hid (Shape w (.slice none 0 0) 0 A) := Shape.nil w A
      have HSb : Hid (Shape w (.slice none 0 0) 0 B) := Shape.nil w B
      clear mk mk'
      go_enter Try.func4, Try.ntmps4
      go_wp2_with (first
        | (go_at_call 8; refine (bytesR_yes _ _ _ _ _ _ _ _ _ hm hn).mono ?_; rintro e w' ⟨rfl, hw⟩; subst hw))
      refine (one_any _ _ A e1 w hm HSa.out.row HSa.out.fits hA).mono ?_
      rintro e w1 ⟨rfl, B1⟩
      have Sa1 : Hid (Shape w1 _ _ A) := HSa.out.below B1 (Nat.le_refl _)
      have Sb1 : Hid (Shape w1 _ _ B) := HSb.out.below B1 (Nat.le_refl _)
      clear HSa HSb
      go_wp2_with fail
      refine (two_any _ _ _ _ A B e1 e2 w1 hm hn Sa1.out.row Sb1.out.row Sa1.out.fits Sb1.out.fits hA hB).mono ?_
      rintro e w2 ⟨b, rfl, hb, B2⟩
      have Sa2 : Hid (Shape w2 _ _ A) := Sa1.out.below B2 (Nat.le_refl _)
      have Sb2 : Hid (Shape w2 _ _ B) := Sb1.out.below B2 (Nat.le_refl _)
      clear Sa1 Sb1
      have Hb : Hid (b = true ↔ (∀ t, dig A 0 t = dig B 0 t) ∧ e1 = e2) := hb
      clear hb
      have B3 := Bnx (Bnx (Below.refl w.heap.size w) B1) B2
      clear B1 B2
      go_wp2_with fail
      refine (mag_any _ _ _ _ A B w2 hm hn Sa2.out Sb2.out).mono ?_
      rintro e w3 ⟨b', rfl, hb', nq, rfl⟩
      clear Sa2 Sb2
      cases b' with
      | true =>
        have hp := hb'.1 rfl
        have eb := two_true Hb.out hp
        clear Hb hb' hp
        subst eb
        go_wp2
        go_ret
        exact ⟨rfl, Bdrew B3 _⟩
      | false =>
        have hp : ¬ (∀ t, dig A 0 t = dig B 0 t) := fun h => Bool.noConfusion (hb'.2 h)
        have eb := two_false Hb.out hp
        clear Hb hb' hp
        subst eb
        go_wp2
        go_ret
        exact ⟨rfl, Bdrew B3 _⟩
    · obtain ⟨wb, rb, Bb, Rb⟩ := copy_run q n d B w hq hqb
      have HSa : Hid (Shape wb (.slice none 0 0) 0 A) := Shape.nil wb A
      have HSb : Hid (Shape wb (.slice (some ⟨w.heap.size, 0, none⟩) n n) n B) := Shape.copied Rb
      clear Rb hq hqb
      clear mk
      go_enter Try.func4, Try.ntmps4
      go_wp2_with (first
        | (go_at_call 8; refine (bytesR_yes _ _ _ _ _ _ _ _ _ hm hn).mono ?_; rintro e w' ⟨rfl, hw⟩; subst hw))
      refine (one_any _ _ A e1 wb hm HSa.out.row HSa.out.fits hA).mono ?_
      rintro e w1 ⟨rfl, B1⟩
      have Sa1 : Hid (Shape w1 _ _ A) := HSa.out.below B1 (Nat.le_refl _)
      have Sb1 : Hid (Shape w1 _ _ B) := HSb.out.below B1 (Nat.le_refl _)
      clear HSa HSb
      go_wp2_with fail
      refine (two_any _ _ _ _ A B e1 e2 w1 hm hn Sa1.out.row Sb1.out.row Sa1.out.fits Sb1.out.fits hA hB).mono ?_
      rintro e w2 ⟨b, rfl, hb, B2⟩
      have Sa2 : Hid (Shape w2 _ _ A) := Sa1.out.below B2 (Nat.le_refl _)
      have Sb2 : Hid (Shape w2 _ _ B) := Sb1.out.below B2 (Nat.le_refl _)
      clear Sa1 Sb1
      have Hb : Hid (b = true ↔ (∀ t, dig A 0 t = dig B n t) ∧ e1 = e2) := hb
      clear hb
      have B3 := Bnx (Bnx Bb B1) B2
      clear B1 B2
      go_wp2_with fail
      refine (mag_any _ _ _ _ A B w2 hm hn Sa2.out Sb2.out).mono ?_
      rintro e w3 ⟨b', rfl, hb', nq, rfl⟩
      clear Sa2 Sb2
      cases b' with
      | true =>
        have hp := hb'.1 rfl
        have eb := two_true Hb.out hp
        clear Hb hb' hp
        subst eb
        go_wp2
        go_ret
        exact ⟨rfl, Bdrew B3 _⟩
      | false =>
        have hp : ¬ (∀ t, dig A 0 t = dig B n t) := fun h => Bool.noConfusion (hb'.2 h)
        have eb := two_false Hb.out hp
        clear Hb hb' hp
        subst eb
        go_wp2
        go_ret
        exact ⟨rfl, Bdrew B3 _⟩
  · obtain ⟨wa, ra, Ba, Ra⟩ := copy_run p m c A w hp hpb
    rcases hb with ⟨rfl, rfl, rfl⟩ | ⟨q, rfl, hq, hqb⟩
    · have HSa : Hid (Shape wa (.slice (some ⟨w.heap.size, 0, none⟩) m m) m A) := Shape.copied Ra
      have HSb : Hid (Shape wa (.slice none 0 0) 0 B) := Shape.nil wa B
      clear Ra hp hpb
      clear mk'
      go_enter Try.func4, Try.ntmps4
      go_wp2_with (first
        | (go_at_call 8; refine (bytesR_yes _ _ _ _ _ _ _ _ _ hm hn).mono ?_; rintro e w' ⟨rfl, hw⟩; subst hw))
      refine (one_any _ _ A e1 wa hm HSa.out.row HSa.out.fits hA).mono ?_
      rintro e w1 ⟨rfl, B1⟩
      have Sa1 : Hid (Shape w1 _ _ A) := HSa.out.below B1 (Nat.le_refl _)
      have Sb1 : Hid (Shape w1 _ _ B) := HSb.out.below B1 (Nat.le_refl _)
      clear HSa HSb
      go_wp2_with fail
      refine (two_any _ _ _ _ A B e1 e2 w1 hm hn Sa1.out.row Sb1.out.row Sa1.out.fits Sb1.out.fits hA hB).mono ?_
      rintro e w2 ⟨b, rfl, hb, B2⟩
      have Sa2 : Hid (Shape w2 _ _ A) := Sa1.out.below B2 (Nat.le_refl _)
      have Sb2 : Hid (Shape w2 _ _ B) := Sb1.out.below B2 (Nat.le_refl _)
      clear Sa1 Sb1
      have Hb : Hid (b = true ↔ (∀ t, dig A m t = dig B 0 t) ∧ e1 = e2) := hb
      clear hb
      have B3 := Bnx (Bnx Ba B1) B2
      clear B1 B2
      go_wp2_with fail
      refine (mag_any _ _ _ _ A B w2 hm hn Sa2.out Sb2.out).mono ?_
      rintro e w3 ⟨b', rfl, hb', nq, rfl⟩
      clear Sa2 Sb2
      cases b' with
      | true =>
        have hp := hb'.1 rfl
        have eb := two_true Hb.out hp
        clear Hb hb' hp
        subst eb
        go_wp2
        go_ret
        exact ⟨rfl, Bdrew B3 _⟩
      | false =>
        have hp : ¬ (∀ t, dig A m t = dig B 0 t) := fun h => Bool.noConfusion (hb'.2 h)
        have eb := two_false Hb.out hp
        clear Hb hb' hp
        subst eb
        go_wp2
        go_ret
        exact ⟨rfl, Bdrew B3 _⟩
    · have hq2 : ∀ i, i < n → wa.cell? (q.add i) = some (.int .u8 (B i)) := fun i hi => (Ba.cell (p := q.add i) (by have := hqb (by omega); unfold Addr.add; split <;> exact this)).trans (hq i hi)
      obtain ⟨wb, rb, Bb, Rb⟩ := copy_run q n d B wa hq2 (fun h => Nat.lt_of_lt_of_le (hqb h) Ba.size)
      have Ra2 := Ra.below Bb (Nat.le_refl _)
      have HSa : Hid (Shape wb (.slice (some ⟨w.heap.size, 0, none⟩) m m) m A) := Shape.copied Ra2
      have HSb : Hid (Shape wb (.slice (some ⟨wa.heap.size, 0, none⟩) n n) n B) := Shape.copied Rb
      clear Ra Ra2 Rb hp hpb hq hqb hq2
      go_enter Try.func4, Try.ntmps4
      go_wp2_with (first
        | (go_at_call 8; refine (bytesR_yes _ _ _ _ _ _ _ _ _ hm hn).mono ?_; rintro e w' ⟨rfl, hw⟩; subst hw))
      refine (one_any _ _ A e1 wb hm HSa.out.row HSa.out.fits hA).mono ?_
      rintro e w1 ⟨rfl, B1⟩
      have Sa1 : Hid (Shape w1 _ _ A) := HSa.out.below B1 (Nat.le_refl _)
      have Sb1 : Hid (Shape w1 _ _ B) := HSb.out.below B1 (Nat.le_refl _)
      clear HSa HSb
      go_wp2_with fail
      refine (two_any _ _ _ _ A B e1 e2 w1 hm hn Sa1.out.row Sb1.out.row Sa1.out.fits Sb1.out.fits hA hB).mono ?_
      rintro e w2 ⟨b, rfl, hb, B2⟩
      have Sa2 : Hid (Shape w2 _ _ A) := Sa1.out.below B2 (Nat.le_refl _)
      have Sb2 : Hid (Shape w2 _ _ B) := Sb1.out.below B2 (Nat.le_refl _)
      clear Sa1 Sb1
      have Hb : Hid (b = true ↔ (∀ t, dig A m t = dig B n t) ∧ e1 = e2) := hb
      clear hb
      have B3 := Bnx (Bnx (Bnx Ba Bb) B1) B2
      clear B1 B2
      go_wp2_with fail
      refine (mag_any _ _ _ _ A B w2 hm hn Sa2.out Sb2.out).mono ?_
      rintro e w3 ⟨b', rfl, hb', nq, rfl⟩
      clear Sa2 Sb2
      cases b' with
      | true =>
        have hp := hb'.1 rfl
        have eb := two_true Hb.out hp
        clear Hb hb' hp
        subst eb
        go_wp2
        go_ret
        exact ⟨rfl, Bdrew B3 _⟩
      | false =>
        have hp : ¬ (∀ t, dig A m t = dig B n t) := fun h => Bool.noConfusion (hb'.2 h)
        have eb := two_false Hb.out hp
        clear Hb hb' hp
        subst eb
        go_wp2
        go_ret
        exact ⟨rfl, Bdrew B3 _⟩
end Go.Proofs.Qxb6608702a
