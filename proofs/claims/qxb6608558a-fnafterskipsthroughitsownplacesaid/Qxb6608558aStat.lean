import Derived.Test.Qxb6608558aTime
namespace Go.Proofs.Qxb6608558a
open Go.RowKit
theorem bcell {W w1 : World} {B : Nat} (hb : Below B W w1) : (∀ b o, b < B → w1.cell? ⟨b, o, none⟩ = W.cell? ⟨b, o, none⟩) ∧ (∀ b o, b < B → w1.frozen? ⟨b, o, none⟩ = W.frozen? ⟨b, o, none⟩) :=
  ⟨fun b o h => hb.cell (p := ⟨b, o, none⟩) h, fun b o h => hb.frozen (p := ⟨b, o, none⟩) h⟩

/-- A status, as a value. -/
abbrev stV (id : ByteArray) (hb nx : Option Addr) (n s : Int) : Value :=
  .agg #[.string id, .pointer hb, .string ⟨#[]⟩, .pointer nx, .string ⟨#[]⟩, .int .u64 n, .int .i64 s, .pointer none]
/-- A place, as a value. -/
abbrev plV (rank n s : Int) (id : ByteArray) : Value :=
  .agg #[.int .i64 rank, .int .u64 n, .int .i64 s, .pointer none, .string id]

set_option maxHeartbeats 1000000 in
theorem withNext_any (id : ByteArray) (hb nx : Option Addr) (ns : Int) (w : World) (l0 : -9223372036854775808 ≤ ns) (l1 : ns ≤ 9223372036854775807) :
    Calls Try.prog 32 #[stV id hb nx 0 0, .int .i64 ns] w
      fun e w' => e = .returned (stV id hb nx (ns % 1000000000) (ns / 1000000000)) ∧ ∃ c1 c2 c3 c4 : Array Value, w' = (((w.alloc (.cells c1 40)).alloc (.cells c2 40)).alloc (.cells c3 34)).alloc (.cells c4 34) := by
  go_enter Try.func32, Try.ntmps32
  go_wp2_with (go_at_call 38; refine (timeAdd_any _ _ l0 l1).mono ?_; rintro e w1 ⟨rfl, c3, c4, rfl⟩)
  refine bodyPost_ret (v := stV id hb nx (ns % 1000000000) (ns / 1000000000)) (by simp [results, Try.results32, go_sem]) rfl ⟨rfl, ?_⟩
  exact ⟨_, _, _, _, rfl⟩

set_option maxHeartbeats 1000000 in
theorem place0_any (id : ByteArray) (hb : Option Addr) (nx : Addr) (n s : Int) (w : World) :
    Calls Try.prog 16 #[stV id hb (some nx) n s] w fun e w' => e = .returned (plV 0 n s id) ∧ Below w.heap.size w w' := by
  go_enter Try.func16, Try.ntmps16
  go_wp2
  refine bodyPost_ret (v := plV 0 n s id) (by simp [results, Try.results16, go_sem]) rfl ⟨rfl, ?_⟩
  exact ((Below.refl _ _).alloc (Nat.le_refl _) _).alloc (by simp) _
set_option maxHeartbeats 1000000 in
theorem place1_any (id : ByteArray) (hb : Addr) (n s : Int) (w : World) :
    Calls Try.prog 16 #[stV id (some hb) none n s] w fun e w' => e = .returned (plV 1 n s id) ∧ Below w.heap.size w w' := by
  go_enter Try.func16, Try.ntmps16
  go_wp2
  refine bodyPost_ret (v := plV 1 n s id) (by simp [results, Try.results16, go_sem]) rfl ⟨rfl, ?_⟩
  exact ((Below.refl _ _).alloc (Nat.le_refl _) _).alloc (by simp) _
set_option maxHeartbeats 1000000 in
theorem place2_any (id : ByteArray) (n s : Int) (w : World) :
    Calls Try.prog 16 #[stV id none none n s] w fun e w' => e = .returned (plV 2 n s id) ∧ Below w.heap.size w w' := by
  go_enter Try.func16, Try.ntmps16
  go_wp2
  refine bodyPost_ret (v := plV 2 n s id) (by simp [results, Try.results16, go_sem]) rfl ⟨rfl, ?_⟩
  exact ((Below.refl _ _).alloc (Nat.le_refl _) _).alloc (by simp) _

set_option maxHeartbeats 1000000 in
theorem status0_any (ns : Int) (id : ByteArray) (w : World) (l0 : -9223372036854775808 ≤ ns) (l1 : ns ≤ 9223372036854775807) :
    Calls Try.prog 15 #[.int .i64 0, .int .i64 ns, .string id] w fun e w' => (∃ hb nx, e = .returned (stV id (some hb) (some nx) (ns % 1000000000) (ns / 1000000000))) ∧ Below w.heap.size w w' := by
  go_enter Try.func15, Try.ntmps15
  go_wp2_with (go_at_call 32; refine (withNext_any _ _ _ _ _ l0 l1).mono ?_; rintro e w1 ⟨rfl, c1, c2, c3, c4, rfl⟩)
  refine bodyPost_ret (v := stV id (some ⟨w.heap.size + 1 + 1, 0, none⟩) (some ⟨w.heap.size + 1 + 1 + 1, 0, none⟩) (ns % 1000000000) (ns / 1000000000)) (by simp [results, Try.results15, go_sem]) rfl ⟨⟨_, _, rfl⟩, ?_⟩
  refine Below.alloc (Below.alloc (Below.alloc (Below.alloc (Below.alloc (Below.alloc (Below.alloc (Below.alloc (Below.refl _ _) ?_ _) ?_ _) ?_ _) ?_ _) ?_ _) ?_ _) ?_ _) ?_ _ <;> first | exact Nat.le_refl _ | (simp only [World.size_alloc]; omega)
set_option maxHeartbeats 1000000 in
theorem status1_any (ns : Int) (id : ByteArray) (w : World) :
    Calls Try.prog 15 #[.int .i64 1, .int .i64 ns, .string id] w fun e w' => (∃ hb, e = .returned (stV id (some hb) none 0 0)) ∧ Below w.heap.size w w' := by
  go_enter Try.func15, Try.ntmps15
  go_wp2
  refine bodyPost_ret (v := stV id (some ⟨w.heap.size + 2, 0, none⟩) none 0 0) (by simp [results, Try.results15, go_sem]) rfl ⟨⟨_, rfl⟩, ?_⟩
  refine Below.alloc (Below.alloc (Below.alloc (Below.refl _ _) ?_ _) ?_ _) ?_ _ <;> first | exact Nat.le_refl _ | (simp only [World.size_alloc]; omega)
set_option maxHeartbeats 1000000 in
theorem status2_any (ns : Int) (id : ByteArray) (w : World) :
    Calls Try.prog 15 #[.int .i64 2, .int .i64 ns, .string id] w fun e w' => e = .returned (stV id none none 0 0) ∧ Below w.heap.size w w' := by
  go_enter Try.func15, Try.ntmps15
  go_wp2
  refine bodyPost_ret (v := stV id none none 0 0) (by simp [results, Try.results15, go_sem]) rfl ⟨rfl, ?_⟩
  exact ((Below.refl _ _).alloc (Nat.le_refl _) _).alloc (by simp) _
end Go.Proofs.Qxb6608558a
