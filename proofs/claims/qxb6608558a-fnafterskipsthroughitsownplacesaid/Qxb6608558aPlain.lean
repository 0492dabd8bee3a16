import Derived.Test.Qxb6608558aPlace
namespace Go.Proofs.Qxb6608558a
open Go.RowKit

theorem cmpI_neg (a b : Int) : cmpI b a = -cmpI a b := by unfold cmpI; split <;> split <;> (try split) <;> omega
theorem cmpI_lo (a b : Int) : -1 ≤ cmpI a b := by unfold cmpI; split <;> (try split) <;> omega
theorem cmpI_hi (a b : Int) : cmpI a b ≤ 1 := by unfold cmpI; split <;> (try split) <;> omega
theorem cmpI_ne {a b : Int} (h : a ≠ b) : cmpI a b ≠ 0 := by unfold cmpI; split <;> (try split) <;> omega

theorem cmpT_ns (x y : Int) : cmpT (x % 1000000000) (x / 1000000000) (y % 1000000000) (y / 1000000000) = cmpI x y := by
  unfold cmpT cmpI
  split <;> (repeat' split) <;> omega

theorem cmpP_kind {r1 r2 : Int} (h : r1 ≠ r2) (n1 s1 : Int) (i1 : ByteArray) (n2 s2 : Int) (i2 : ByteArray) : cmpP r1 n1 s1 i1 r2 n2 s2 i2 = cmpI r1 r2 := by
  unfold cmpP orI; rw [if_pos (cmpI_ne h)]
theorem cmpP_ns {x y : Int} (h : x ≠ y) (i1 i2 : ByteArray) : cmpP 0 (x % 1000000000) (x / 1000000000) i1 0 (y % 1000000000) (y / 1000000000) i2 = cmpI x y := by
  unfold cmpP orI; rw [cmpI_eq, cmpT_ns, if_neg (by simp), if_pos (cmpI_ne h)]
theorem cmpT_self (n s : Int) : cmpT n s n s = 0 := by simp [cmpT, cmpI_eq]
theorem cmpP_id (r n s : Int) (i1 i2 : ByteArray) : cmpP r n s i1 r n s i2 = Lib.compareBytes i1.data.toList i2.data.toList := by
  unfold cmpP orI; rw [cmpI_eq, cmpT_self]; simp

theorem cb_self : ∀ l : List UInt8, Lib.compareBytes l l = 0
  | [] => rfl
  | a :: l => by simp [Lib.compareBytes, cb_self l]
theorem cb_app : ∀ (l : List UInt8) (a : UInt8) (t : List UInt8), Lib.compareBytes l (l ++ a :: t) = -1
  | [], _, _ => rfl
  | x :: l, a, t => by simp [Lib.compareBytes, cb_app l a t]
theorem cb_app' : ∀ (l : List UInt8) (a : UInt8) (t : List UInt8), Lib.compareBytes (l ++ a :: t) l = 1
  | [], _, _ => rfl
  | x :: l, a, t => by simp [Lib.compareBytes, cb_app' l a t]

theorem app_data (a b : ByteArray) : (a ++ b).data.toList = a.data.toList ++ b.data.toList := by simp

/-- What the law wants in its third test. -/
def wantS (s : ByteArray) : Int := if s.size = 0 then 0 else -1
theorem wantS_eq (i s : ByteArray) : Lib.compareBytes i.data.toList (i ++ s).data.toList = wantS s := by
  rw [app_data]
  obtain ⟨⟨l⟩⟩ := s
  cases l with
  | nil => simp [cb_self, wantS, ByteArray.size]
  | cons a t => simp [cb_app, wantS, ByteArray.size]
theorem wantS_eq' (i s : ByteArray) : Lib.compareBytes (i ++ s).data.toList i.data.toList = -wantS s := by
  rw [app_data]
  obtain ⟨⟨l⟩⟩ := s
  cases l with
  | nil => simp [cb_self, wantS, ByteArray.size]
  | cons a t => simp [cb_app', wantS, ByteArray.size]

/-! ### The bound on the lengths -/
set_option maxHeartbeats 1000000 in
theorem bytes14_yes (k1 n1 k2 n2 : Value) (a b c : ByteArray) (w : World) (h : a.size + b.size + c.size ≤ 1048576) :
    Calls Try.prog 14 #[k1, n1, .string a, k2, n2, .string b, .string c] w fun e w' => e = .returned (.bool true) ∧ w' = w := by
  go_enter Try.func14, Try.ntmps14
  go_wp2
  go_ret
  exact ⟨rfl, rfl⟩
set_option maxHeartbeats 1000000 in
theorem bytes14_no (k1 n1 k2 n2 : Value) (a b c : ByteArray) (w : World) (ha : a.size ≤ maxLen) (hb : b.size ≤ maxLen) (hc : c.size ≤ maxLen) (h : 1048576 < a.size + b.size + c.size) :
    Calls Try.prog 14 #[k1, n1, .string a, k2, n2, .string b, .string c] w fun e w' => e = .returned (.bool false) ∧ w' = w := by
  unfold maxLen at ha hb hc
  by_cases h1 : 1048576 < a.size
  · go_enter Try.func14, Try.ntmps14
    go_wp2
    go_ret
    exact ⟨rfl, rfl⟩
  by_cases h2 : 1048576 < b.size
  · go_enter Try.func14, Try.ntmps14
    go_wp2
    go_ret
    exact ⟨rfl, rfl⟩
  by_cases h3 : 1048576 < a.size + b.size
  · go_enter Try.func14, Try.ntmps14
    go_wp2
    go_ret
    exact ⟨rfl, rfl⟩
  by_cases h4 : 1048576 < c.size
  · go_enter Try.func14, Try.ntmps14
    go_wp2
    go_ret
    exact ⟨rfl, rfl⟩
  · go_enter Try.func14, Try.ntmps14
    go_wp2
    go_ret
    exact ⟨rfl, rfl⟩

/-! ### zzStatus and Place, at every kind -/
def rank (hb nx : Option Addr) : Int := if nx.isSome then 0 else if hb.isSome then 1 else 2
def kn (k ns : Int) : Int := if k = 0 then ns % 1000000000 else 0
def ks (k ns : Int) : Int := if k = 0 then ns / 1000000000 else 0
theorem kn_lo (k ns : Int) : 0 ≤ kn k ns := by unfold kn; split <;> omega
theorem kn_hi (k ns : Int) : kn k ns < 1000000000 := by unfold kn; split <;> omega

theorem status_any (k ns : Int) (id : ByteArray) (w : World) (k0 : 0 ≤ k) (k2 : k ≤ 2) (l0 : -9223372036854775808 ≤ ns) (l1 : ns ≤ 9223372036854775807) :
    Calls Try.prog 15 #[.int .i64 k, .int .i64 ns, .string id] w fun e w' => (∃ hb nx, rank hb nx = k ∧ e = .returned (stV id hb nx (kn k ns) (ks k ns))) ∧ Below w.heap.size w w' := by
  have h : k = 0 ∨ k = 1 ∨ k = 2 := by omega
  rcases h with rfl | rfl | rfl
  · refine (status0_any ns id w l0 l1).mono ?_
    rintro e w' ⟨⟨hb, nx, rfl⟩, hB⟩
    exact ⟨⟨_, _, rfl, rfl⟩, hB⟩
  · refine (status1_any ns id w).mono ?_
    rintro e w' ⟨⟨hb, rfl⟩, hB⟩
    exact ⟨⟨_, _, rfl, rfl⟩, hB⟩
  · refine (status2_any ns id w).mono ?_
    rintro e w' ⟨rfl, hB⟩
    exact ⟨⟨none, none, rfl, rfl⟩, hB⟩

theorem place_any (id : ByteArray) (hb nx : Option Addr) (n s : Int) (w : World) :
    Calls Try.prog 16 #[stV id hb nx n s] w fun e w' => e = .returned (plV (rank hb nx) n s id) ∧ Below w.heap.size w w' := by
  cases nx with
  | some a => exact place0_any id hb a n s w
  | none =>
    cases hb with
    | some a => exact place1_any id a n s w
    | none => exact place2_any id n s w
end Go.Proofs.Qxb6608558a
