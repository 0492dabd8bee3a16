import Derived.Test.Qxb6608777aDoorField
namespace Go.Proofs.Qxb6608777aDoor
open Go.RowKit

/-- The floats that came in. -/
def Xs (w : World) (x : Option Addr) (L : Nat) (X : Nat → Nat) : Prop := 0 < L → ∃ p, x = some p ∧ p.block < w.heap.size ∧ ∀ i, i < L → w.cell? (p.add i) = some (.float .f64 (X i))
theorem Xs.at {w wr : World} {x : Option Addr} {L k : Nat} {X : Nat → Nat} (h : Xs w x L X) (hB : Below w.heap.size w wr) (hk : k < L) : ∃ p, x = some p ∧ wr.cell? (p.add k) = some (.float .f64 (X k)) := by
  obtain ⟨p, e, hp, hc⟩ := h (by omega)
  exact ⟨p, e, (hB.cell (p := p.add k) (by unfold Addr.add; split <;> exact hp)).trans (hc k hk)⟩
theorem Xs.below {w w' : World} {x : Option Addr} {L : Nat} {X : Nat → Nat} (h : Xs w x L X) (hB : Below w.heap.size w w') : Xs w' x L X := fun h0 => by
  obtain ⟨p, e, hp, hc⟩ := h h0
  exact ⟨p, e, Nat.lt_of_lt_of_le hp hB.size, fun k hk => (hB.cell (p := p.add k) (by unfold Addr.add; split <;> exact hp)).trans (hc k hk)⟩

theorem atOf_le (b : Nat) : atOf b ≤ 2098 := by
  have l0 : base b ≤ 2046 := by have := expo_lt b; unfold base; omega
  have : tz (sig b) ≤ 52 := by
    by_cases h : 0 < sig b
    · obtain ⟨u, hu⟩ := tz_spec h
      have := (two_pow_small hu (sig_lt b)).1; omega
    · unfold tz; rw [dif_neg h]; omega
  unfold atOf; omega
theorem qOf_le (b : Nat) : qOf b ≤ 32 := by have := atOf_le b; unfold qOf; omega
theorem loW_le (X : Nat → Nat) : ∀ k, loW X k ≤ 32
  | 0 => by show 0 ≤ 32; omega
  | k + 1 => by
    have ih := loW_le X k
    have h := qOf_le (X k)
    show (if sig (X k) = 0 then loW X k else if tch X k = false ∨ qOf (X k) < loW X k then qOf (X k) else loW X k) ≤ 32
    split
    · exact ih
    · split
      · exact h
      · exact ih
theorem mxW_le (X : Nat → Nat) : ∀ k, mxW X k ≤ 32
  | 0 => by show 0 ≤ 32; omega
  | k + 1 => by
    have ih := mxW_le X k
    have h := qOf_le (X k)
    show (if sig (X k) = 0 then mxW X k else if tch X k = false ∨ mxW X k < qOf (X k) then qOf (X k) else mxW X k) ≤ 32
    split
    · exact ih
    · split
      · exact h
      · exact ih
theorem loW_none (X : Nat → Nat) : ∀ k, tch X k = false → loW X k = 0
  | 0, _ => rfl
  | k + 1, h => by
    have h' : (tch X k || decide (sig (X k) ≠ 0)) = false := h
    rw [Bool.or_eq_false_iff] at h'
    have hs : sig (X k) = 0 := by simpa using h'.2
    show (if sig (X k) = 0 then loW X k else _) = 0
    rw [if_pos hs]
    exact loW_none X k h'.1
/-- What three numbers say of the first k floats. -/
def Look (X : Nat → Nat) (k : Nat) (t : Bool) (l m : Nat) : Prop := t = tch X k ∧ l = loW X k ∧ m = mxW X k
theorem Look.skip {X : Nat → Nat} {k l m : Nat} {t : Bool} (h : Look X k t l m) (hs : sig (X k) = 0) : Look X (k + 1) t l m :=
  ⟨by rw [h.1]; show _ = (tch X k || decide (sig (X k) ≠ 0)); simp [hs], by rw [h.2.1]; show _ = (if sig (X k) = 0 then _ else _); rw [if_pos hs], by rw [h.2.2]; show _ = (if sig (X k) = 0 then _ else _); rw [if_pos hs]⟩
theorem Look.add {X : Nat → Nat} {k l m l' m' : Nat} {t : Bool} (h : Look X k t l m) (hs : sig (X k) ≠ 0) (hl : l' = if t = false ∨ qOf (X k) < l then qOf (X k) else l) (hm : m' = if t = false ∨ m < qOf (X k) then qOf (X k) else m) : Look X (k + 1) true l' m' := by
  obtain ⟨h1, h2, h3⟩ := h
  subst h1 h2 h3
  exact ⟨by show _ = (tch X k || decide (sig (X k) ≠ 0)); simp [hs], by rw [hl]; show _ = (if sig (X k) = 0 then _ else _); rw [if_neg hs], by rw [hm]; show _ = (if sig (X k) = 0 then _ else _); rw [if_neg hs]⟩

theorem ws_at (P k : Nat) (h : k < 36) : (ws P).toArray[k]? = some (wds P k) := by
  rw [List.getElem?_toArray]
  unfold ws
  rw [List.getElem?_map, List.getElem?_range h]; rfl
theorem box_start (P Q : Nat) (w : World) : Below w.heap.size w ((w.alloc (.cells (ws P).toArray 30)).alloc (.cells (ws Q).toArray 30)) ∧ Row ((w.alloc (.cells (ws P).toArray 30)).alloc (.cells (ws Q).toArray 30)) w.heap.size 0 36 (wds P) ∧ Row ((w.alloc (.cells (ws P).toArray 30)).alloc (.cells (ws Q).toArray 30)) (w.heap.size + 1) 0 36 (wds Q) := by
  have b1 := below_alloc w (.cells (ws P).toArray 30)
  have b2 := below_alloc (w.alloc (.cells (ws P).toArray 30)) (.cells (ws Q).toArray 30)
  have r1 := Row.new w (ws P).toArray 30 36 (wds P) (ws_at P)
  have r2 := Row.new (w.alloc (.cells (ws P).toArray 30)) (ws Q).toArray 30 36 (wds Q) (ws_at Q)
  rw [size_alloc] at b2 r2
  exact ⟨b1.trans (b2.mono (by omega)), r1.below b2 (by omega), r2⟩

/-- It answers yes. -/
def Yes (w : World) (e : Ending) (w' : World) : Prop := e = .returned (.bool true) ∧ Below w.heap.size w w'

set_option maxRecDepth 100000 in
set_option maxHeartbeats 8000000 in
theorem window_any (P Q lo hi L c : Nat) (x : Option Addr) (X : Nat → Nat) (w : World) (hL : L ≤ 65536) (hX : Xs w x L X) (hb : ∀ i, i < L → X i < 18446744073709551616) (hW : Win X L P Q lo hi) :
    Calls Tryd.prog 12 #[.agg (ws P).toArray, .agg (ws Q).toArray, .int .i64 (lo : Nat), .int .i64 (hi : Nat), .slice x L c] w (Yes w) := by
  have HX : Hid (Xs w x L X) := ⟨hX⟩
  have HB : Hid (∀ i, i < L → X i < 18446744073709551616) := ⟨hb⟩
  have HW : Hid (Win X L P Q lo hi) := ⟨hW⟩
  obtain ⟨s1, s2, s3⟩ := box_start P Q w
  have S1 : Hid _ := ⟨s1⟩
  have S2 : Hid _ := ⟨s2⟩
  have S3 : Hid _ := ⟨s3⟩
  clear hX hb hW s1 s2 s3
  go_enter Tryd.func12, Tryd.ntmps12
  go_wp2
  obtain ⟨w2, ey⟩ : ∃ y, y = ((w.alloc (.cells (ws P).toArray 30)).alloc (.cells (ws Q).toArray 30)) := ⟨_, rfl⟩
  rw [← ey] at S1 S2 S3 ⊢
  clear ey
  go_loop [12, 13, 11, 14] (fun l m t i => ∃ (k l' m' : Nat) (t' : Bool), k ≤ L ∧ l' ≤ 32 ∧ m' ≤ 32 ∧ l = .int .i64 l' ∧ m = .int .i64 m' ∧ t = .bool t' ∧ i = .int .i64 k ∧ Hid (Look X k t' l' m')) (fun _ _ _ i => L - (intOf i).toNat)
  case atStart => exact ⟨0, 0, 0, false, Nat.zero_le _, Nat.zero_le _, Nat.zero_le _, rfl, rfl, rfl, rfl, ⟨rfl, rfl, rfl⟩⟩
  case round =>
    obtain ⟨k, l, m, t, hk, hl, hm, rfl, rfl, rfl, rfl, HLk⟩ := hrel
    by_cases hlt : k < L
    · obtain ⟨p, rfl, q1⟩ := HX.out.at S1.out hlt
      have g0 : (0 : Int) ≤ (k : Int) := by omega
      have g1 : (k : Int) < (L : Int) := by omega
      have hbk := HB.out k hlt
      by_cases hs : sig (X k) = 0
      · have HL' : Hid (Look X (k + 1) t l m) := ⟨HLk.out.skip hs⟩
        have HC : Hid _ := ⟨lowest_none (X k) w2 hbk hs⟩
        clear HLk hs hbk
        go_wp2_with (go_at_call 15; refine HC.out.mono ?_; rintro e w' ⟨rfl, rfl⟩)
        go_round
        case rel => exact ⟨k + 1, l, m, t, by omega, hl, hm, rfl, rfl, rfl, by go_num, HL'⟩
        case measure => simp [intOf]; omega
      · have HC : Hid _ := ⟨lowest_some (X k) w2 hbk (by omega)⟩
        obtain ⟨a, ea⟩ : ∃ a, a = atOf (X k) := ⟨_, rfl⟩
        obtain ⟨q, eq⟩ : ∃ q, q = qOf (X k) := ⟨_, rfl⟩
        have hq := qOf_le (X k)
        have ha := atOf_le (X k)
        have haq : a / 64 = q := by rw [ea, eq]; rfl
        rw [← ea] at HC ha
        rw [← eq] at hq
        have e1 : (a : Int).tdiv 64 = (q : Int) := by rw [Int.tdiv_eq_ediv_of_nonneg (by omega)]; omega
        have e2 : (a : Int) / 64 = (q : Int) := by omega
        have HA : Hid (∀ l' m', l' = (if t = false ∨ q < l then q else l) → m' = (if t = false ∨ m < q then q else m) → Look X (k + 1) true l' m') := ⟨fun l' m' h1 h2 => HLk.out.add hs (by rw [← eq]; exact h1) (by rw [← eq]; exact h2)⟩
        clear HLk hs hbk ea eq haq
        cases t with
        | false =>
          have HL' : Hid (Look X (k + 1) true q q) := ⟨HA.out q q (by simp) (by simp)⟩
          clear HA
          go_wp2_with (go_at_call 15; refine HC.out.mono ?_; rintro e w' ⟨rfl, rfl⟩)
          go_round
          case rel => exact ⟨k + 1, q, q, true, by omega, hq, hq, rfl, rfl, rfl, by go_num, HL'⟩
          case measure => simp [intOf]; omega
        | true =>
          by_cases h1 : q < l
          · have n1 : (q : Int) < (l : Int) := by omega
            by_cases h2 : m < q
            · have n2 : (m : Int) < (q : Int) := by omega
              have HL' : Hid (Look X (k + 1) true q q) := ⟨HA.out q q (by simp [h1]) (by simp [h2])⟩
              clear HA
              go_wp2_with (go_at_call 15; refine HC.out.mono ?_; rintro e w' ⟨rfl, rfl⟩)
              go_round
              case rel => exact ⟨k + 1, q, q, true, by omega, hq, hq, rfl, rfl, rfl, by go_num, HL'⟩
              case measure => simp [intOf]; omega
            · have n2 : ¬ (m : Int) < (q : Int) := by omega
              have HL' : Hid (Look X (k + 1) true q m) := ⟨HA.out q m (by simp [h1]) (by simp [h2])⟩
              clear HA
              go_wp2_with (go_at_call 15; refine HC.out.mono ?_; rintro e w' ⟨rfl, rfl⟩)
              go_round
              case rel => exact ⟨k + 1, q, m, true, by omega, hq, hm, rfl, rfl, rfl, by go_num, HL'⟩
              case measure => simp [intOf]; omega
          · have n1 : ¬ (q : Int) < (l : Int) := by omega
            by_cases h2 : m < q
            · have n2 : (m : Int) < (q : Int) := by omega
              have HL' : Hid (Look X (k + 1) true l q) := ⟨HA.out l q (by simp [h1]) (by simp [h2])⟩
              clear HA
              go_wp2_with (go_at_call 15; refine HC.out.mono ?_; rintro e w' ⟨rfl, rfl⟩)
              go_round
              case rel => exact ⟨k + 1, l, q, true, by omega, hl, hq, rfl, rfl, rfl, by go_num, HL'⟩
              case measure => simp [intOf]; omega
            · have n2 : ¬ (m : Int) < (q : Int) := by omega
              have HL' : Hid (Look X (k + 1) true l m) := ⟨HA.out l m (by simp [h1]) (by simp [h2])⟩
              clear HA
              go_wp2_with (go_at_call 15; refine HC.out.mono ?_; rintro e w' ⟨rfl, rfl⟩)
              go_round
              case rel => exact ⟨k + 1, l, m, true, by omega, hl, hm, rfl, rfl, rfl, by go_num, HL'⟩
              case measure => simp [intOf]; omega
    · obtain rfl : L = k := by omega
      have hll : lo = l := by rw [HW.out.low, HLk.out.2.1]
      subst hll
      have ht := HLk.out.1
      have hhi := HW.out.high
      cases t with
      | false =>
        have h0 := (HW.out.none ht.symm).1
        have h1 : lo = 0 := by rw [HLk.out.2.1]; exact loW_none X L ht.symm
        subst h0 h1
        clear ht
        go_wp2
        go_ret
        exact ⟨rfl, S1.out⟩
      | true =>
        have h2 := HW.out.some ht.symm
        rw [← HLk.out.2.2] at h2
        have n1 : ¬ (hi : Int) < (m : Int) + 2 := by omega
        have n2 : ¬ (34 : Int) < (hi : Int) := by omega
        clear ht
        clear HLk
        go_wp2
        go_loop [18] (fun i => ∃ j : Nat, j ≤ 36 ∧ i = .int .i64 j) (fun i => 36 - (intOf i).toNat)
        case atStart => exact ⟨0, Nat.zero_le _, rfl⟩
        case round =>
          obtain ⟨j, hj, rfl⟩ := hrel
          by_cases hlt : j < 36
          · have g0 : (0 : Int) ≤ (j : Int) := by omega
            have g1 : (j : Int) < 36 := by omega
            by_cases h3 : j < lo
            · have n3 : (j : Int) < (lo : Int) := by omega
              obtain ⟨z1, z2⟩ := HW.out.out j (Or.inl h3)
              have q1 := (S2.out j hlt).1
              have q2 := (S3.out j hlt).1
              rw [Nat.zero_add] at q1 q2
              unfold wds at q1 q2
              rw [z1] at q1
              rw [z2] at q2
              clear z1 z2
              go_wp2
              go_round
              case rel => exact ⟨j + 1, by omega, by go_num⟩
              case measure => simp [intOf]; omega
            · have n3 : ¬ (j : Int) < (lo : Int) := by omega
              by_cases h4 : hi ≤ j
              · have n4 : (hi : Int) ≤ (j : Int) := by omega
                obtain ⟨z1, z2⟩ := HW.out.out j (Or.inr h4)
                have q1 := (S2.out j hlt).1
                have q2 := (S3.out j hlt).1
                rw [Nat.zero_add] at q1 q2
                unfold wds at q1 q2
                rw [z1] at q1
                rw [z2] at q2
                clear z1 z2
                go_wp2
                go_round
                case rel => exact ⟨j + 1, by omega, by go_num⟩
                case measure => simp [intOf]; omega
              · have n4 : ¬ (hi : Int) ≤ (j : Int) := by omega
                go_wp2
                go_round
                case rel => exact ⟨j + 1, by omega, by go_num⟩
                case measure => simp [intOf]; omega
          · have g1 : ¬ (j : Int) < 36 := by omega
            go_wp2
            go_ret
            exact ⟨rfl, S1.out⟩
end Go.Proofs.Qxb6608777aDoor
