import Derived.Test.Qxb6608558aList
import Derived.Deep.RegionHeld3
namespace Go.Proofs.Qxb6608558a
open Go.RowKit
/-- It returns a bool; where that is 'no', p holds; of what was there nothing has turned. -/
def SaysB (no : Bool) (p : Prop) (w : World) (e : Ending) (w' : World) : Prop := ∃ r : Bool, e = .returned (.bool r) ∧ (r = no → p) ∧ Below w.heap.size w w'
theorem SaysB.no {no : Bool} {p : Prop} {w w' : World} {v : Value} (hv : v = .bool no) (h : p) (hB : Below w.heap.size w w') : SaysB no p w (.returned v) w' := ⟨no, by rw [hv], fun _ => h, hB⟩
theorem SaysB.yes {no : Bool} {p : Prop} {w w' : World} {v : Value} (hv : v = .bool (!no)) (hB : Below w.heap.size w w') : SaysB no p w (.returned v) w' := ⟨!no, by rw [hv], fun h => by cases no <;> simp at h, hB⟩
theorem Bnx {W a b : World} (h : Below W.heap.size W a) (k : Below a.heap.size a b) : Below W.heap.size W b := h.trans (k.mono h.size)
theorem Bal {W a : World} (h : Below W.heap.size W a) (o : Obj) : Below W.heap.size W (a.alloc o) := h.alloc h.size o
theorem Bdrew {W a : World} (h : Below W.heap.size W a) (n : Nat) : Below W.heap.size W (a.drewN n) := below_drewN h n

/-- Element i stands as the list's check wants it. -/
def OkAt (ID : Nat → ByteArray) (HB NX : Nat → Bool) (NS : Nat → Int) (i : Nat) : Prop :=
  (NX i = true → HB i = true) ∧ (NX i = false → NS i = 0) ∧ (0 < i → pmod (rankIn (HB (i - 1)) (NX (i - 1))) (NS (i - 1)) (ID (i - 1)) (rankIn (HB i) (NX i)) (NS i) (ID i) < 0)

set_option maxHeartbeats 2000000 in
theorem listOK_any (b off len cap : Nat) (ID : Nat → ByteArray) (HB NX : Nat → Bool) (NS : Nat → Int) (w : World) (hl : len ≤ 65536) (hI : InAt w b off len ID HB NX NS) (hS : ∀ i, i < len → (ID i).size ≤ 1048576) (hbw : b < w.heap.size) :
    Calls Try.prog 23 #[.slice (some ⟨b, off, none⟩) len cap] w (SaysB true (∀ i, i < len → OkAt ID HB NX NS i) w) := by
  go_enter Try.func23, Try.ntmps23
  go_wp2
  go_loopw [3] (fun i wr => ∃ k : Nat, k ≤ len ∧ i = .int .i64 k ∧ Hid (∀ i, i < k → OkAt ID HB NX NS i) ∧ Below w.heap.size w wr) (fun i _ => len - (intOf i).toNat)
  case atStart => exact ⟨0, Nat.zero_le _, rfl, fun i hi => absurd hi (Nat.not_lt_zero i), Below.refl _ _⟩
  case round =>
    obtain ⟨k, hk, rfl, hA, hB⟩ := hrel
    have hbr : b < wr.heap.size := Nat.lt_of_lt_of_le hbw hB.size
    by_cases hlt : k < len
    · obtain ⟨c0, c1, c2, c3, _⟩ := hI k hlt
      replace c0 := (hB.cell (p := ⟨b, off + k * 4, none⟩) hbw).trans c0
      replace c1 := (hB.cell (p := ⟨b, off + k * 4 + 1, none⟩) hbw).trans c1
      replace c2 := (hB.cell (p := ⟨b, off + k * 4 + 2, none⟩) hbw).trans c2
      replace c3 := (hB.cell (p := ⟨b, off + k * 4 + 3, none⟩) hbw).trans c3
      have z0 := hS k hlt
      obtain ⟨id, Hi⟩ : ∃ x, Hid (ID k = x) := ⟨_, rfl⟩
      obtain ⟨hb, Hh⟩ : ∃ x, Hid (HB k = x) := ⟨_, rfl⟩
      obtain ⟨nx, Hn⟩ : ∃ x, Hid (NX k = x) := ⟨_, rfl⟩
      obtain ⟨ns, Hs⟩ : ∃ x, Hid (NS k = x) := ⟨_, rfl⟩
      rw [Hi.out] at c0 z0
      rw [Hh.out] at c1
      rw [Hn.out] at c2
      rw [Hs.out] at c3
      by_cases h1 : nx = true ∧ hb = false
      · obtain ⟨rfl, rfl⟩ := h1
        go_wp2
        go_ret
        exact SaysB.yes rfl (Bal hB _)
      by_cases h2 : nx = false ∧ ns ≠ 0
      · obtain ⟨rfl, h2⟩ := h2
        have h2' : (ns == 0) = false := by simpa using h2
        go_wp2
        go_ret
        exact SaysB.yes rfl (Bal hB _)
      have O1 : Hid (NX k = true → HB k = true) := by
        show NX k = true → HB k = true
        rw [Hh.out, Hn.out]; intro q; cases hb <;> simp_all
      have O2 : Hid (NX k = false → NS k = 0) := by
        show NX k = false → NS k = 0
        rw [Hs.out, Hn.out]; intro q; by_cases z : ns = 0 <;> simp_all
      have K1 : (nx = true ∧ hb = true) ∨ (nx = false ∧ ns = 0) := by
        cases nx <;> cases hb <;> simp_all
      clear h1 h2
      by_cases h3 : k < 1
      · have fin : Hid (∀ i, i < k + 1 → OkAt ID HB NX NS i) := fun i hi => by
          rcases Nat.lt_succ_iff_lt_or_eq.1 hi with h' | rfl
          · exact hA.out i h'
          · exact ⟨O1.out, O2.out, fun h => by omega⟩
        rcases K1 with ⟨rfl, rfl⟩ | ⟨rfl, rfl⟩
        · go_wp2
          go_roundw
          case rel => exact ⟨k + 1, by omega, by go_num, fin, Bal hB _⟩
          case measure => simp [intOf]; omega
        · go_wp2
          go_roundw
          case rel => exact ⟨k + 1, by omega, by go_num, fin, Bal hB _⟩
          case measure => simp [intOf]; omega
      · obtain ⟨m, hm⟩ : ∃ m, Hid (m + 1 = k) := ⟨k - 1, by show k - 1 + 1 = k; omega⟩
        have hmk : m < k := by have := hm.out; omega
        have hmk' : k ≤ m + 1 := by have := hm.out; omega
        obtain ⟨d0, d1, d2, d3, _⟩ := hI m (by omega)
        replace d0 := (hB.cell (p := ⟨b, off + m * 4, none⟩) hbw).trans d0
        replace d1 := (hB.cell (p := ⟨b, off + m * 4 + 1, none⟩) hbw).trans d1
        replace d2 := (hB.cell (p := ⟨b, off + m * 4 + 2, none⟩) hbw).trans d2
        replace d3 := (hB.cell (p := ⟨b, off + m * 4 + 3, none⟩) hbw).trans d3
        have z1 := hS m (by omega)
        have Hm : Hid (k - 1 = m) := by have := hm.out; show k - 1 = m; omega
        have em : ((k : Int) - 1) = (m : Int) := by have := hm.out; omega
        have fin : Hid (pmod (rankIn (HB m) (NX m)) (NS m) (ID m) (rankIn hb nx) ns id < 0 → ∀ i, i < k + 1 → OkAt ID HB NX NS i) := fun h i hi => by
          rcases Nat.lt_succ_iff_lt_or_eq.1 hi with h' | rfl
          · exact hA.out i h'
          · exact ⟨O1.out, O2.out, fun _ => by rw [Hm.out, Hi.out, Hh.out, Hn.out, Hs.out]; exact h⟩
        rcases K1 with ⟨rfl, rfl⟩ | ⟨rfl, rfl⟩
        · by_cases hp : 0 ≤ pmod (rankIn (HB m) (NX m)) (NS m) (ID m) (rankIn true true) ns id
          · go_wp2
            go_region_held3 (fun w' => w'.cell? ⟨wr.heap.size, 0, none⟩ = some (.string id) ∧ w'.cell? ⟨wr.heap.size, 1, none⟩ = some (.bool true) ∧ w'.cell? ⟨wr.heap.size, 2, none⟩ = some (.bool true) ∧ w'.cell? ⟨wr.heap.size, 3, none⟩ = some (.int .i64 ns)
                ∧ w'.cell? ⟨wr.heap.size + 1, 0, none⟩ = some (.string (ID m)) ∧ w'.cell? ⟨wr.heap.size + 1, 1, none⟩ = some (.bool (HB m)) ∧ w'.cell? ⟨wr.heap.size + 1, 2, none⟩ = some (.bool (NX m)) ∧ w'.cell? ⟨wr.heap.size + 1, 3, none⟩ = some (.int .i64 (NS m)))
              (simp [go_sem, World.cell?_alloc_past])
              (first
                | (go_at_call 37; refine (rankIn_any _ _ _ _ _).mono ?_; rintro e w' ⟨rfl, rfl⟩)
                | (go_at_call 26; refine (placeModel_any _ _ _ _ _ _ _ z1 z0).mono ?_; rintro e w' ⟨rfl, nq, rfl⟩))
            go_wp2
            go_ret
            exact SaysB.yes rfl (Bdrew (Bal (Bal (Bal (Bal hB _) _) _) _) _)
          · go_wp2
            go_region_held3 (fun w' => w'.cell? ⟨wr.heap.size, 0, none⟩ = some (.string id) ∧ w'.cell? ⟨wr.heap.size, 1, none⟩ = some (.bool true) ∧ w'.cell? ⟨wr.heap.size, 2, none⟩ = some (.bool true) ∧ w'.cell? ⟨wr.heap.size, 3, none⟩ = some (.int .i64 ns)
                ∧ w'.cell? ⟨wr.heap.size + 1, 0, none⟩ = some (.string (ID m)) ∧ w'.cell? ⟨wr.heap.size + 1, 1, none⟩ = some (.bool (HB m)) ∧ w'.cell? ⟨wr.heap.size + 1, 2, none⟩ = some (.bool (NX m)) ∧ w'.cell? ⟨wr.heap.size + 1, 3, none⟩ = some (.int .i64 (NS m)))
              (simp [go_sem, World.cell?_alloc_past])
              (first
                | (go_at_call 37; refine (rankIn_any _ _ _ _ _).mono ?_; rintro e w' ⟨rfl, rfl⟩)
                | (go_at_call 26; refine (placeModel_any _ _ _ _ _ _ _ z1 z0).mono ?_; rintro e w' ⟨rfl, nq, rfl⟩))
            go_wp2
            go_roundw
            case rel => exact ⟨k + 1, by omega, by go_num, fin.out (by omega), Bdrew (Bal (Bal (Bal (Bal hB _) _) _) _) _⟩
            case measure => simp [intOf]; omega
        · by_cases hp : 0 ≤ pmod (rankIn (HB m) (NX m)) (NS m) (ID m) (rankIn hb false) 0 id
          · go_wp2
            go_region_held3 (fun w' => w'.cell? ⟨wr.heap.size, 0, none⟩ = some (.string id) ∧ w'.cell? ⟨wr.heap.size, 1, none⟩ = some (.bool hb) ∧ w'.cell? ⟨wr.heap.size, 2, none⟩ = some (.bool false) ∧ w'.cell? ⟨wr.heap.size, 3, none⟩ = some (.int .i64 0)
                ∧ w'.cell? ⟨wr.heap.size + 1, 0, none⟩ = some (.string (ID m)) ∧ w'.cell? ⟨wr.heap.size + 1, 1, none⟩ = some (.bool (HB m)) ∧ w'.cell? ⟨wr.heap.size + 1, 2, none⟩ = some (.bool (NX m)) ∧ w'.cell? ⟨wr.heap.size + 1, 3, none⟩ = some (.int .i64 (NS m)))
              (simp [go_sem, World.cell?_alloc_past])
              (first
                | (go_at_call 37; refine (rankIn_any _ _ _ _ _).mono ?_; rintro e w' ⟨rfl, rfl⟩)
                | (go_at_call 26; refine (placeModel_any _ _ _ _ _ _ _ z1 z0).mono ?_; rintro e w' ⟨rfl, nq, rfl⟩))
            go_wp2
            go_ret
            exact SaysB.yes rfl (Bdrew (Bal (Bal (Bal (Bal hB _) _) _) _) _)
          · go_wp2
            go_region_held3 (fun w' => w'.cell? ⟨wr.heap.size, 0, none⟩ = some (.string id) ∧ w'.cell? ⟨wr.heap.size, 1, none⟩ = some (.bool hb) ∧ w'.cell? ⟨wr.heap.size, 2, none⟩ = some (.bool false) ∧ w'.cell? ⟨wr.heap.size, 3, none⟩ = some (.int .i64 0)
                ∧ w'.cell? ⟨wr.heap.size + 1, 0, none⟩ = some (.string (ID m)) ∧ w'.cell? ⟨wr.heap.size + 1, 1, none⟩ = some (.bool (HB m)) ∧ w'.cell? ⟨wr.heap.size + 1, 2, none⟩ = some (.bool (NX m)) ∧ w'.cell? ⟨wr.heap.size + 1, 3, none⟩ = some (.int .i64 (NS m)))
              (simp [go_sem, World.cell?_alloc_past])
              (first
                | (go_at_call 37; refine (rankIn_any _ _ _ _ _).mono ?_; rintro e w' ⟨rfl, rfl⟩)
                | (go_at_call 26; refine (placeModel_any _ _ _ _ _ _ _ z1 z0).mono ?_; rintro e w' ⟨rfl, nq, rfl⟩))
            go_wp2
            go_roundw
            case rel => exact ⟨k + 1, by omega, by go_num, fin.out (by omega), Bdrew (Bal (Bal (Bal (Bal hB _) _) _) _) _⟩
            case measure => simp [intOf]; omega
    · go_wp2
      go_ret
      exact SaysB.no rfl (fun i hi => hA.out i (by omega)) hB
end Go.Proofs.Qxb6608558a
