import Derived.Test.Qxb6608558aPlain
import Derived.LoopTactic
import Derived.WalkSmall
namespace Go.Proofs.Qxb6608558a
open Go.RowKit

/-- What the list handed in holds: n structs of four cells, from block b, offset off on. -/
def InAt (w : World) (b off n : Nat) (ID : Nat → ByteArray) (HB NX : Nat → Bool) (NS : Nat → Int) : Prop :=
  ∀ i, i < n → w.cell? ⟨b, off + i * 4, none⟩ = some (.string (ID i)) ∧ w.cell? ⟨b, off + i * 4 + 1, none⟩ = some (.bool (HB i)) ∧ w.cell? ⟨b, off + i * 4 + 2, none⟩ = some (.bool (NX i)) ∧ w.cell? ⟨b, off + i * 4 + 3, none⟩ = some (.int .i64 (NS i)) ∧ (ID i).size ≤ maxLen

/-- It returns a bool; where that is 'no', p holds; the world is as it was. -/
def Says (no : Bool) (p : Prop) (w : World) (e : Ending) (w' : World) : Prop := ∃ r : Bool, e = .returned (.bool r) ∧ (r = no → p) ∧ w = w'
theorem Says.no {no : Bool} {p : Prop} {w : World} {v : Value} (hv : v = .bool no) (h : p) : Says no p w (.returned v) w := ⟨no, by rw [hv], fun _ => h, rfl⟩
theorem Says.yes {no : Bool} {p : Prop} {w : World} {v : Value} (hv : v = .bool (!no)) : Says no p w (.returned v) w := ⟨!no, by rw [hv], fun h => by cases no <;> simp at h, rfl⟩

set_option maxHeartbeats 400000 in
theorem tooBig_any (b off len cap : Nat) (ID : Nat → ByteArray) (HB NX : Nat → Bool) (NS : Nat → Int) (w : World) (hm : len ≤ maxLen) (hI : InAt w b off len ID HB NX NS) (hS : ∀ i, i < len → (ID i).size ≤ 1048576) :
    Calls Try.prog 21 #[.slice (some ⟨b, off, none⟩) len cap, .int .i64 0] w (Says false (len ≤ 65536) w) := by
  unfold maxLen at hm
  by_cases hl : 65536 < len
  · go_enter Try.func21, Try.ntmps21
    go_wp2
    go_ret
    exact Says.yes rfl
  · go_enter Try.func21, Try.ntmps21
    go_wp2
    go_loop [1, 5] (fun t i => ∃ k : Nat, ∃ q : Int, k ≤ len ∧ 0 ≤ q ∧ q ≤ 1048576 ∧ i = .int .i64 k ∧ t = .int .i64 q) (fun _ i => len - (intOf i).toNat)
    case atStart => exact ⟨0, 0, Nat.zero_le _, by omega, by omega, rfl, rfl⟩
    case round =>
      obtain ⟨k, q, hk, hq0, hq1, rfl, rfl⟩ := hrel
      by_cases hlt : k < len
      · obtain ⟨c0, _, _, _, hz⟩ := hI k hlt
        have hbig := hS k hlt
        clear hz
        go_wp2
        · go_ret
          exact Says.yes rfl
        · go_round
          case rel => exact ⟨k + 1, _, by omega, by omega, by omega, by go_num, rfl⟩
          case measure => simp [intOf]; omega
      · go_wp2
        go_ret
        exact Says.no rfl (by omega)

set_option maxHeartbeats 400000 in
theorem bytes_any (b off len cap : Nat) (k0 : Int) (ID : Nat → ByteArray) (HB NX : Nat → Bool) (NS : Nat → Int) (w : World) (hm : len ≤ maxLen) (hI : InAt w b off len ID HB NX NS) :
    Calls Try.prog 30 #[.slice (some ⟨b, off, none⟩) len cap, .int .i64 k0] w (Says true (∀ i, i < len → (ID i).size ≤ 1048576) w) := by
  unfold maxLen at hm
  by_cases hl : 1048576 < len
  · go_enter Try.func30, Try.ntmps30
    go_wp2
    go_ret
    exact Says.yes rfl
  · go_enter Try.func30, Try.ntmps30
    go_wp2
    go_loop [5, 6] (fun t i => ∃ k : Nat, ∃ q : Int, Hid (∀ i, i < k → (ID i).size ≤ 1048576) ∧ k ≤ len ∧ 0 ≤ q ∧ q ≤ 1048576 ∧ i = .int .i64 k ∧ t = .int .i64 q) (fun _ i => len - (intOf i).toNat)
    case atStart => exact ⟨0, _, fun i hi => absurd hi (Nat.not_lt_zero i), Nat.zero_le _, by omega, by omega, rfl, rfl⟩
    case round =>
      obtain ⟨k, q, hA, hk, hq0, hq1, rfl, rfl⟩ := hrel
      by_cases hlt : k < len
      · obtain ⟨c0, _, _, _, hz⟩ := hI k hlt
        unfold maxLen at hz
        go_wp2
        · go_ret
          exact Says.yes rfl
        · go_ret
          exact Says.yes rfl
        · go_round
          case rel => exact ⟨k + 1, _, fun i hi => by rcases Nat.lt_succ_iff_lt_or_eq.1 hi with h | h; exact hA.out i h; subst h; omega, by omega, by omega, by omega, by go_num, rfl⟩
          case measure => simp [intOf]; omega
      · go_wp2
        go_ret
        exact Says.no rfl (fun i hi => hA.out i (by omega))
theorem drop_at (a : ByteArray) (k : Nat) (h : k < a.size) : a.data.toList.drop k = a[k] :: a.data.toList.drop (k + 1) := by
  rw [List.drop_eq_getElem_cons (by simpa using h)]; rfl
theorem cb_step (a b : ByteArray) (k : Nat) (ha : k < a.size) (hb : k < b.size) (h : (((a[k].toNat : Nat) : Int) != ((b[k].toNat : Nat) : Int)) = false) :
    Lib.compareBytes (a.data.toList.drop k) (b.data.toList.drop k) = Lib.compareBytes (a.data.toList.drop (k + 1)) (b.data.toList.drop (k + 1)) := by
  have e : a[k] = b[k] := by
    have h' : ((a[k].toNat : Nat) : Int) = ((b[k].toNat : Nat) : Int) := by simpa using h
    have : a[k].toNat = b[k].toNat := by omega
    exact UInt8.toNat_inj.1 this
  rw [drop_at a k ha, drop_at b k hb, e]
  simp [Lib.compareBytes]
theorem cb_lt (a b : ByteArray) (k : Nat) (ha : k < a.size) (hb : k < b.size) (h : a[k].toNat < b[k].toNat) :
    Lib.compareBytes (a.data.toList.drop k) (b.data.toList.drop k) = -1 := by
  have e : a[k] < b[k] := UInt8.lt_iff_toNat_lt.2 (by omega)
  rw [drop_at a k ha, drop_at b k hb]
  simp [Lib.compareBytes, e]
theorem cb_gt (a b : ByteArray) (k : Nat) (ha : k < a.size) (hb : k < b.size) (h0 : (((a[k].toNat : Nat) : Int) != ((b[k].toNat : Nat) : Int)) = true) (h : ¬ a[k].toNat < b[k].toNat) :
    Lib.compareBytes (a.data.toList.drop k) (b.data.toList.drop k) = 1 := by
  have h0' : ¬ ((a[k].toNat : Nat) : Int) = ((b[k].toNat : Nat) : Int) := by simpa using h0
  have h1 : a[k].toNat ≠ b[k].toNat := by omega
  have e : b[k] < a[k] := UInt8.lt_iff_toNat_lt.2 (by omega)
  have e' : ¬ a[k] < b[k] := fun q => by have := UInt8.lt_iff_toNat_lt.1 q; omega
  rw [drop_at a k ha, drop_at b k hb]
  simp [Lib.compareBytes, e, e']
theorem cb_endB (a b : ByteArray) (k : Nat) (h : b.size < a.size) (hk : k = b.size) :
    Lib.compareBytes (a.data.toList.drop k) (b.data.toList.drop k) = cmpI a.size b.size := by
  rw [drop_at a k (by omega), List.drop_of_length_le (l := b.data.toList) (by simp; omega), cmpI_gt (by omega)]; rfl
theorem cb_endA (a b : ByteArray) (k : Nat) (h : ¬ b.size < a.size) (hk : k = a.size) :
    Lib.compareBytes (a.data.toList.drop k) (b.data.toList.drop k) = cmpI a.size b.size := by
  rw [List.drop_of_length_le (l := a.data.toList) (by simp; omega)]
  by_cases e : a.size = b.size
  · rw [List.drop_of_length_le (l := b.data.toList) (by simp; omega), e, cmpI_eq]; rfl
  · rw [drop_at b k (by omega), cmpI_lt (by omega)]; rfl
theorem ret_int {k : IntKind} {a b : Int} (h : a = b) : Ending.returned (.int k a) = .returned (.int k b) := by rw [h]

set_option maxHeartbeats 2000000 in
theorem cmpStr_any (a b : ByteArray) (w : World) (ha : a.size ≤ 1048576) (hb : b.size ≤ 1048576) :
    Calls Try.prog 39 #[.string a, .string b] w fun e w' => e = .returned (.int .i64 (Lib.compareBytes a.data.toList b.data.toList)) ∧ ∃ nq, w' = w.drewN nq := by
  by_cases hl : b.size < a.size
  · go_enter Try.func39, Try.ntmps39
    go_wp2
    go_loopw [6] (fun i wr => ∃ k nq : Nat, k ≤ b.size ∧ i = .int .i64 k ∧ Hid (Lib.compareBytes a.data.toList b.data.toList = Lib.compareBytes (a.data.toList.drop k) (b.data.toList.drop k)) ∧ wr = w.drewN nq) (fun i _ => b.size - (intOf i).toNat)
    case atStart => exact ⟨0, 0, Nat.zero_le _, rfl, rfl, rfl⟩
    case round =>
      obtain ⟨k, nq, hk, rfl, hH, rfl⟩ := hrel
      by_cases hlt : k < b.size
      · have ka : k < a.size := by omega
        have kb : k < b.size := by omega
        go_wp2
        go_quiet (fail)
        go_wp2
        · go_quiet (fail)
          go_wp2
          · go_ret
            exact ⟨ret_int (by rw [hH.out, cb_lt a b k ka kb (by assumption)]), _, by rw [World.drewN_drewN, World.drewN_drewN]⟩
          · go_ret
            exact ⟨ret_int (by rw [hH.out, cb_gt a b k ka kb (by assumption) (by assumption)]), _, by rw [World.drewN_drewN, World.drewN_drewN]⟩
        · go_roundw
          case rel => exact ⟨k + 1, _, by omega, by go_num, hH.out.trans (cb_step a b k ka kb (by assumption)), rfl⟩
          case measure => simp [intOf]; omega
      · go_wp2_with (go_at_call 17; refine (zzCmpInt_any _ _ _).mono ?_; rintro e w' ⟨rfl, rfl⟩)
        go_ret
        exact ⟨ret_int (by rw [hH.out, cb_endB a b k hl (by omega)]), _, rfl⟩
  · go_enter Try.func39, Try.ntmps39
    go_wp2
    go_loopw [6] (fun i wr => ∃ k nq : Nat, k ≤ a.size ∧ i = .int .i64 k ∧ Hid (Lib.compareBytes a.data.toList b.data.toList = Lib.compareBytes (a.data.toList.drop k) (b.data.toList.drop k)) ∧ wr = w.drewN nq) (fun i _ => a.size - (intOf i).toNat)
    case atStart => exact ⟨0, 0, Nat.zero_le _, rfl, rfl, rfl⟩
    case round =>
      obtain ⟨k, nq, hk, rfl, hH, rfl⟩ := hrel
      by_cases hlt : k < a.size
      · have ka : k < a.size := by omega
        have kb : k < b.size := by omega
        go_wp2
        go_quiet (fail)
        go_wp2
        · go_quiet (fail)
          go_wp2
          · go_ret
            exact ⟨ret_int (by rw [hH.out, cb_lt a b k ka kb (by assumption)]), _, by rw [World.drewN_drewN, World.drewN_drewN]⟩
          · go_ret
            exact ⟨ret_int (by rw [hH.out, cb_gt a b k ka kb (by assumption) (by assumption)]), _, by rw [World.drewN_drewN, World.drewN_drewN]⟩
        · go_roundw
          case rel => exact ⟨k + 1, _, by omega, by go_num, hH.out.trans (cb_step a b k ka kb (by assumption)), rfl⟩
          case measure => simp [intOf]; omega
      · go_wp2_with (go_at_call 17; refine (zzCmpInt_any _ _ _).mono ?_; rintro e w' ⟨rfl, rfl⟩)
        go_ret
        exact ⟨ret_int (by rw [hH.out, cb_endA a b k hl (by omega)]), _, rfl⟩

def rankIn (hb nx : Bool) : Int := if nx then 0 else if hb then 1 else 2
set_option maxHeartbeats 1000000 in
theorem rankIn_any (id : ByteArray) (hb nx : Bool) (ns : Int) (w : World) :
    Calls Try.prog 37 #[.agg #[.string id, .bool hb, .bool nx, .int .i64 ns]] w fun e w' => e = .returned (.int .i64 (rankIn hb nx)) ∧ w' = w.alloc (.cells #[.string id, .bool hb, .bool nx, .int .i64 ns] 73) := by
  cases nx
  · cases hb
    · go_enter Try.func37, Try.ntmps37
      go_wp2
      go_ret
      exact ⟨rfl, rfl⟩
    · go_enter Try.func37, Try.ntmps37
      go_wp2
      go_ret
      exact ⟨rfl, rfl⟩
  · go_enter Try.func37, Try.ntmps37
    go_wp2
    go_ret
    exact ⟨rfl, rfl⟩

/-- The law's own order of places. -/
def pmod (r1 n1 : Int) (i1 : ByteArray) (r2 n2 : Int) (i2 : ByteArray) : Int :=
  if r1 ≠ r2 then cmpI r1 r2 else if n1 ≠ n2 then cmpI n1 n2 else Lib.compareBytes i1.data.toList i2.data.toList
set_option maxHeartbeats 1000000 in
theorem placeModel_any (r1 n1 : Int) (i1 : ByteArray) (r2 n2 : Int) (i2 : ByteArray) (w : World) (ha : i1.size ≤ 1048576) (hb : i2.size ≤ 1048576) :
    Calls Try.prog 26 #[.int .i64 r1, .int .i64 n1, .string i1, .int .i64 r2, .int .i64 n2, .string i2] w fun e w' => e = .returned (.int .i64 (pmod r1 n1 i1 r2 n2 i2)) ∧ ∃ nq, w' = w.drewN nq := by
  by_cases h1 : r1 = r2
  · subst h1
    by_cases h2 : n1 = n2
    · subst h2
      have e : pmod r1 n1 i1 r1 n1 i2 = Lib.compareBytes i1.data.toList i2.data.toList := by simp [pmod]
      rw [e]
      go_enter Try.func26, Try.ntmps26
      go_wp2_with (go_at_call 39; refine (cmpStr_any _ _ _ ha hb).mono ?_; rintro e w' ⟨rfl, nq, rfl⟩)
      go_ret
      exact ⟨rfl, _, rfl⟩
    · have e : pmod r1 n1 i1 r1 n2 i2 = cmpI n1 n2 := by simp [pmod, h2]
      rw [e]
      have hb2 : (n1 == n2) = false := by simpa using h2
      go_enter Try.func26, Try.ntmps26
      go_wp2_with (go_at_call 19; refine (zzCmpI64_any _ _ _).mono ?_; rintro e w' ⟨rfl, rfl⟩)
      go_ret
      exact ⟨rfl, 0, rfl⟩
  · have e : pmod r1 n1 i1 r2 n2 i2 = cmpI r1 r2 := by simp [pmod, h1]
    rw [e]
    have hb1 : (r1 == r2) = false := by simpa using h1
    go_enter Try.func26, Try.ntmps26
    go_wp2_with (go_at_call 17; refine (zzCmpInt_any _ _ _).mono ?_; rintro e w' ⟨rfl, rfl⟩)
    go_ret
    exact ⟨rfl, 0, rfl⟩
end Go.Proofs.Qxb6608558a
