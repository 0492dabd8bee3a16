import Derived.Test.Qxb6608558aOk
import Derived.Laws.MakeOwn
import Derived.Laws.IdiomCopy
namespace Go.Proofs.Qxb6608558a
open Go.RowKit

/-- A status lies at block b, offset o. -/
def StAt (w : World) (b o : Nat) (id : ByteArray) (hb nx : Option Addr) (n s : Int) : Prop :=
  w.cell? ⟨b, o, none⟩ = some (.string id) ∧ w.cell? ⟨b, o + 1, none⟩ = some (.pointer hb) ∧ w.cell? ⟨b, o + 2, none⟩ = some (.string ⟨#[]⟩) ∧ w.cell? ⟨b, o + 3, none⟩ = some (.pointer nx) ∧
  w.cell? ⟨b, o + 4, none⟩ = some (.string ⟨#[]⟩) ∧ w.cell? ⟨b, o + 5, none⟩ = some (.int .u64 n) ∧ w.cell? ⟨b, o + 6, none⟩ = some (.int .i64 s) ∧ w.cell? ⟨b, o + 7, none⟩ = some (.pointer none)

/-- The cells of a new row of statuses. -/
def mk8 (n : Nat) : Array Value := madeCells #[.string ⟨#[]⟩, .pointer none, .string ⟨#[]⟩, .pointer none, .string ⟨#[]⟩, .int .u64 0, .int .i64 0, .pointer none] (n * 8)

theorem run_mk8 (n : Nat) (hn : n ≤ 65536) (w : World) : (Instr.makeSlice 51 (.int .i64 (n : Int)) (.int .i64 (n : Int))).run Try.prog w = .ok (.slice (some ⟨w.heap.size, 0, none⟩) n n) (w.alloc (.cells (mk8 n) 40)) := by
  have h := run_make (P := Try.prog) w 51 40 ((Try.prog.info? 40).get!) (.agg #[.string ⟨#[]⟩, .pointer none, .string ⟨#[]⟩, .pointer none, .string ⟨#[]⟩, .int .u64 0, .int .i64 0, .pointer none]) Try.underlying51 (by kernel_rfl) (by kernel_rfl) .i64 .i64 (n : Int) (n : Int) (by omega) (by omega)
    (by have e : ((Try.prog.info? 40).get!).bytes = 88 := by kernel_rfl
        rw [e]; omega) (by omega)
  simp only [Int.toNat_natCast] at h
  have e : ((Try.prog.info? 40).get!).size = 8 := by kernel_rfl
  rw [e] at h
  exact h

/-- The row under construction: block B of len statuses, of which the first k are laid. -/
structure Built (w : World) (B len k : Nat) (ID : Nat → ByteArray) (HB NX : Nat → Bool) (NS : Nat → Int) (wr : World) : Prop where
  below : Below B w wr
  room : B < wr.heap.size
  cell : ∀ o, o < len * 8 → ∃ v, wr.cell? ⟨B, o, none⟩ = some v
  free : ∀ o, wr.frozen? ⟨B, o, none⟩ = false
  laid : ∀ i, i < k → ∃ hb nx, rank hb nx = rankIn (HB i) (NX i) ∧ StAt wr B (i * 8) (ID i) hb nx (NS i % 1000000000) (NS i / 1000000000)

theorem Built.alloc {w : World} {B len k : Nat} {ID : Nat → ByteArray} {HB NX : Nat → Bool} {NS : Nat → Int} {wr : World} (h : Built w B len k ID HB NX NS wr) (o : Obj) : Built w B len k ID HB NX NS (wr.alloc o) := by
  have hB : Below wr.heap.size wr (wr.alloc o) := (Below.refl _ _).alloc (Nat.le_refl _) o
  refine ⟨h.below.alloc (Nat.le_of_lt h.room) o, by have := h.room; simp; omega, fun i hi => ?_, fun i => (hB.frozen (p := ⟨B, i, none⟩) h.room).trans (h.free i), fun i hi => ?_⟩
  · obtain ⟨v, hv⟩ := h.cell i hi
    exact ⟨v, (hB.cell (p := ⟨B, i, none⟩) h.room).trans hv⟩
  · obtain ⟨hb, nx, hr, q0, q1, q2, q3, q4, q5, q6, q7⟩ := h.laid i hi
    exact ⟨hb, nx, hr, (hB.cell (p := ⟨B, _, none⟩) h.room).trans q0, (hB.cell (p := ⟨B, _, none⟩) h.room).trans q1, (hB.cell (p := ⟨B, _, none⟩) h.room).trans q2, (hB.cell (p := ⟨B, _, none⟩) h.room).trans q3,
      (hB.cell (p := ⟨B, _, none⟩) h.room).trans q4, (hB.cell (p := ⟨B, _, none⟩) h.room).trans q5, (hB.cell (p := ⟨B, _, none⟩) h.room).trans q6, (hB.cell (p := ⟨B, _, none⟩) h.room).trans q7⟩

theorem Built.put {w : World} {B len k : Nat} {ID : Nat → ByteArray} {HB NX : Nat → Bool} {NS : Nat → Int} {wr : World} (h : Built w B len k ID HB NX NS wr) (hk : k < len) (hb nx : Option Addr) (hr : rank hb nx = rankIn (HB k) (NX k)) :
    Built w B len (k + 1) ID HB NX NS ((((((((wr.setCell ⟨B, k * 8, none⟩ (.string (ID k))).setCell ⟨B, k * 8 + 1, none⟩ (.pointer hb)).setCell ⟨B, k * 8 + 2, none⟩ (.string ⟨#[]⟩)).setCell ⟨B, k * 8 + 3, none⟩ (.pointer nx)).setCell ⟨B, k * 8 + 4, none⟩ (.string ⟨#[]⟩)).setCell ⟨B, k * 8 + 5, none⟩ (.int .u64 (NS k % 1000000000))).setCell ⟨B, k * 8 + 6, none⟩ (.int .i64 (NS k / 1000000000))).setCell ⟨B, k * 8 + 7, none⟩ (.pointer none)) := by
  generalize hvs : ([.string (ID k), .pointer hb, .string ⟨#[]⟩, .pointer nx, .string ⟨#[]⟩, .int .u64 (NS k % 1000000000), .int .i64 (NS k / 1000000000), .pointer none] : List Value) = vs
  have hlen : vs.length = 8 := by rw [← hvs]; rfl
  have e : ((((((((wr.setCell ⟨B, k * 8, none⟩ (.string (ID k))).setCell ⟨B, k * 8 + 1, none⟩ (.pointer hb)).setCell ⟨B, k * 8 + 2, none⟩ (.string ⟨#[]⟩)).setCell ⟨B, k * 8 + 3, none⟩ (.pointer nx)).setCell ⟨B, k * 8 + 4, none⟩ (.string ⟨#[]⟩)).setCell ⟨B, k * 8 + 5, none⟩ (.int .u64 (NS k % 1000000000))).setCell ⟨B, k * 8 + 6, none⟩ (.int .i64 (NS k / 1000000000))).setCell ⟨B, k * 8 + 7, none⟩ (.pointer none)) = wr.setCells B (k * 8) vs := by
    rw [← hvs]; rfl
  have hin := World.cell?_setCells_in B vs (k * 8) wr (fun j hj => by
    obtain ⟨v, hv⟩ := h.cell (k * 8 + j) (by omega)
    rw [hv]; rfl)
  have hout : ∀ x, x < k * 8 ∨ k * 8 + 8 ≤ x → (wr.setCells B (k * 8) vs).cell? ⟨B, x, none⟩ = wr.cell? ⟨B, x, none⟩ := fun x hx =>
    World.cell?_setCells_out B vs (k * 8) wr ⟨B, x, none⟩ (fun _ _ => by rw [hlen]; exact hx)
  have hbel : Below B wr (wr.setCells B (k * 8) vs) := by
    rw [← e]
    refine Below.setCell (Below.setCell (Below.setCell (Below.setCell (Below.setCell (Below.setCell (Below.setCell (Below.setCell (Below.refl _ _) ?_ _) ?_ _) ?_ _) ?_ _) ?_ _) ?_ _) ?_ _) ?_ _ <;> exact Nat.le_refl _
  rw [e]
  refine ⟨h.below.trans hbel, Nat.lt_of_lt_of_le h.room hbel.size, fun o ho => ?_, fun o => (World.frozen?_setCells B vs (k * 8) wr _).trans (h.free o), fun i hi => ?_⟩
  · by_cases hx : o < k * 8 ∨ k * 8 + 8 ≤ o
    · rw [hout o hx]; exact h.cell o ho
    · obtain ⟨j, rfl⟩ : ∃ j, o = k * 8 + j := ⟨o - k * 8, by omega⟩
      exact ⟨_, hin j (by omega)⟩
  · rcases Nat.lt_succ_iff_lt_or_eq.1 hi with hlt | rfl
    · obtain ⟨hb', nx', hr', q0, q1, q2, q3, q4, q5, q6, q7⟩ := h.laid i hlt
      exact ⟨hb', nx', hr', (hout _ (by omega)).trans q0, (hout _ (by omega)).trans q1, (hout _ (by omega)).trans q2, (hout _ (by omega)).trans q3, (hout _ (by omega)).trans q4, (hout _ (by omega)).trans q5, (hout _ (by omega)).trans q6, (hout _ (by omega)).trans q7⟩
    · subst hvs
      exact ⟨hb, nx, hr, hin 0 (by simp), hin 1 (by simp), hin 2 (by simp), hin 3 (by simp), hin 4 (by simp), hin 5 (by simp), hin 6 (by simp), hin 7 (by simp)⟩

theorem mk8_cell (n o : Nat) (h : o < n * 8) : ∃ v, (mk8 n)[o]? = some v := ⟨_, Array.getElem?_eq_getElem (by unfold mk8; rw [size_madeCells]; exact h)⟩

theorem Built.start (w : World) (len : Nat) (ID : Nat → ByteArray) (HB NX : Nat → Bool) (NS : Nat → Int) : Built w w.heap.size len 0 ID HB NX NS (w.alloc (.cells (mk8 len) 40)) := by
  refine ⟨(Below.refl _ _).alloc (Nat.le_refl _) _, by simp, fun o ho => ?_, fun o => World.frozen?_alloc_at (mk8 len) 40 w.heap.size o rfl, fun i hi => absurd hi (Nat.not_lt_zero i)⟩
  rw [World.cell?_alloc_at (mk8 len) 40 w.heap.size o rfl]
  exact mk8_cell len o ho

set_option maxHeartbeats 2000000 in
theorem build_any (b off len cap : Nat) (ID : Nat → ByteArray) (HB NX : Nat → Bool) (NS : Nat → Int) (w : World) (hl : len ≤ 65536) (hI : InAt w b off len ID HB NX NS) (hok : ∀ i, i < len → NX i = true → HB i = true) (hns : ∀ i, i < len → -9223372036854775808 ≤ NS i ∧ NS i ≤ 9223372036854775807) (hbw : b < w.heap.size) :
    Calls Try.prog 24 #[.slice (some ⟨b, off, none⟩) len cap] w fun e w' => e = .returned (.slice (some ⟨w.heap.size, 0, none⟩) len len) ∧ Built w w.heap.size len len ID HB NX NS w' := by
  have hmk := run_mk8 len hl
  go_enter Try.func24, Try.ntmps24
  go_wp2
  go_loopw [4] (fun i wr => ∃ k : Nat, k ≤ len ∧ i = .int .i64 k ∧ Built w w.heap.size len k ID HB NX NS wr) (fun i _ => len - (intOf i).toNat)
  case atStart => exact ⟨0, Nat.zero_le _, rfl, Built.start w len ID HB NX NS⟩
  case round =>
    obtain ⟨k, hk, rfl, hT⟩ := hrel
    have hB := hT.below
    have hr := hT.room
    have hbr : b < wr.heap.size := Nat.lt_of_lt_of_le hbw hB.size
    by_cases hlt : k < len
    · obtain ⟨c0, c1, c2, c3, _⟩ := hI k hlt
      replace c0 := (hB.cell (p := ⟨b, off + k * 4, none⟩) hbw).trans c0
      replace c1 := (hB.cell (p := ⟨b, off + k * 4 + 1, none⟩) hbw).trans c1
      replace c2 := (hB.cell (p := ⟨b, off + k * 4 + 2, none⟩) hbw).trans c2
      replace c3 := (hB.cell (p := ⟨b, off + k * 4 + 3, none⟩) hbw).trans c3
      have r1 : w.heap.size < wr.heap.size + 1 := by omega
      have r2 : w.heap.size < wr.heap.size + 1 + 1 := by omega
      have r3 : w.heap.size < wr.heap.size + 1 + 1 + 1 := by omega
      have r4 : w.heap.size < wr.heap.size + 1 + 1 + 1 + 1 := by omega
      have r5 : w.heap.size < wr.heap.size + 1 + 1 + 1 + 1 + 1 := by omega
      have r6 : w.heap.size < wr.heap.size + 1 + 1 + 1 + 1 + 1 + 1 := by omega
      have r7 : w.heap.size < wr.heap.size + 1 + 1 + 1 + 1 + 1 + 1 + 1 := by omega
      obtain ⟨x0, q0⟩ := hT.cell (k * 8) (by omega)
      obtain ⟨x1, q1⟩ := hT.cell (k * 8 + 1) (by omega)
      obtain ⟨x2, q2⟩ := hT.cell (k * 8 + 2) (by omega)
      obtain ⟨x3, q3⟩ := hT.cell (k * 8 + 3) (by omega)
      obtain ⟨x4, q4⟩ := hT.cell (k * 8 + 4) (by omega)
      obtain ⟨x5, q5⟩ := hT.cell (k * 8 + 5) (by omega)
      obtain ⟨x6, q6⟩ := hT.cell (k * 8 + 6) (by omega)
      obtain ⟨x7, q7⟩ := hT.cell (k * 8 + 7) (by omega)
      have f0 := hT.free
      obtain ⟨l0, l1⟩ := hns k hlt
      have hok1 := hok k hlt
      obtain ⟨hb, Hh⟩ : ∃ x, Hid (HB k = x) := ⟨_, rfl⟩
      obtain ⟨nx, Hn⟩ : ∃ x, Hid (NX k = x) := ⟨_, rfl⟩
      rw [Hh.out] at c1 hok1
      rw [Hn.out] at c2 hok1
      cases nx
      · clear hok1
        cases hb
        · have R : Hid (rank none none = rankIn (HB k) (NX k)) := by show rank none none = _; rw [Hh.out, Hn.out]; rfl
          go_wp2_with (go_at_call 32; refine (withNext_any _ _ _ _ _ l0 l1).mono ?_; rintro e w1 ⟨rfl, d1, d2, d3, d4, rfl⟩)
          go_roundw
          case rel => exact ⟨k + 1, by omega, by go_num, (((((((hT.put hlt none none R.out).alloc _).alloc _).alloc _).alloc _).alloc _).alloc _)⟩
          case measure => simp [intOf]; omega
        · have R : Hid (∀ a, rank (some a) none = rankIn (HB k) (NX k)) := fun a => by rw [Hh.out, Hn.out]; rfl
          go_wp2_with (go_at_call 32; refine (withNext_any _ _ _ _ _ l0 l1).mono ?_; rintro e w1 ⟨rfl, d1, d2, d3, d4, rfl⟩)
          go_roundw
          case rel => exact ⟨k + 1, by omega, by go_num, ((((((((hT.put hlt (some _) none (R.out _)).alloc _).alloc _).alloc _).alloc _).alloc _).alloc _).alloc _)⟩
          case measure => simp [intOf]; omega
      · obtain rfl := hok1 rfl
        clear hok1
        have R : Hid (∀ a c, rank (some a) (some c) = rankIn (HB k) (NX k)) := fun a c => by rw [Hh.out, Hn.out]; rfl
        go_wp2_with (go_at_call 32; refine (withNext_any _ _ _ _ _ l0 l1).mono ?_; rintro e w1 ⟨rfl, d1, d2, d3, d4, rfl⟩)
        go_roundw
        case rel => exact ⟨k + 1, by omega, by go_num, (((((((((hT.put hlt (some _) (some _) (R.out _ _)).alloc _).alloc _).alloc _).alloc _).alloc _).alloc _).alloc _).alloc _)⟩
        case measure => simp [intOf]; omega
    · go_wp2
      go_ret
      obtain rfl : k = len := by omega
      exact ⟨rfl, hT⟩
end Go.Proofs.Qxb6608558a
