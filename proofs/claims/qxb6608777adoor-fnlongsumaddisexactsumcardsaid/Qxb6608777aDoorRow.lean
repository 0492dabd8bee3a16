import Derived.Test.Qxb6608777aDoorLaw
import Derived.WalkKit
import Derived.ProofKit
import Derived.OpenShut
import Derived.ShutString
import Derived.ChangeOld
import Derived.ChangeSame
import Derived.ChangeVars
import Derived.ChangeArms
import Derived.ChangeSlices
import Derived.JoinedOf
import Derived.LaidLaws
import Derived.Below
namespace Go.Proofs.Qxb6608777aDoor
open Go.ChangeShapes Go.WideShapes Go.ChangeAt Go.RowKit

theorem own : ownKnob Tryd.prog.godebug = none := by kernel_rfl
theorem laidOut : laidOutB Tryd.prog = true := by kernel_rfl
theorem tabNamed : Tryd.prog.globalNamed "math/bits.deBruijn64tab" = some 1 := by kernel_rfl
theorem tabType : (Tryd.prog.globals[1]?).map (·.type) = some 52 := by kernel_rfl
theorem cells52 : Tryd.prog.cellsOf 52 = 64 := by kernel_rfl
theorem cells5 : Tryd.prog.cellsOf 5 = 1 := by kernel_rfl
theorem cells25 : Tryd.prog.cellsOf 25 = 1 := by kernel_rfl

/-- What a run over a list of options says of each. -/
theorem mapM_get {α β : Type} (f : α → Option β) : ∀ (l : List α) (ys : List β), l.mapM f = some ys → ∀ (i : Nat) (a : α), l[i]? = some a → ∃ y, ys[i]? = some y ∧ f a = some y
  | [], _, _, i, a, h => by simp at h
  | x :: l, ys, h, i, a, hi => by
    rw [List.mapM_cons] at h
    simp only [bind, Option.bind_eq_some_iff, pure, Option.some.injEq] at h
    obtain ⟨y, hy, zs, hz, rfl⟩ := h
    cases i with
    | zero => simp at hi; subst hi; exact ⟨y, by simp, hy⟩
    | succ i => simp at hi; simpa using mapM_get f l zs hz i a hi

theorem laid_is : (Rows.laid_math_bits_deBruijn64tab : DataW Unit) = .agg (tab.map (fun n => .lit (.int .u8 (n : Nat)))) := rfl
theorem tab_get (i : Nat) (h : i < 64) : tab[i]? = some (tab.getD i 0) := by
  have hl : tab.length = 64 := rfl
  rw [List.getD_eq_getElem?_getD, List.getElem?_eq_getElem (by omega)]; rfl

theorem tab_of_laid {W : World} (h : laidMet Tryd.prog [("math/bits.deBruijn64tab", Rows.laid_math_bits_deBruijn64tab)] W) : Tab W := by
  obtain ⟨ps, ⟨g, t, cs, fuel, p, q, hg, ht, hvar, hd, _, _⟩, _⟩ := h
  obtain rfl := Option.some.inj (tabNamed.symm.trans hg)
  obtain rfl := Option.some.inj (tabType.symm.trans ht)
  have key : ∀ i, i < 64 → W.cell? ⟨1, i, none⟩ = some (.int .u8 (tab.getD i 0 : Nat)) := by
    cases fuel with
    | zero => simp [DataW.trod] at hd
    | succ fuel =>
      simp only [DataW.trod, Tryd.underlying52, cells52, cells5] at hd
      split at hd
      · rename_i hl
        rw [Option.map_eq_some_iff] at hd
        obtain ⟨xs, hxs, hx⟩ := hd
        rw [laid_is] at hx
        have hx1 : xs.map (·.1) = tab.map (fun n => .lit (.int .u8 (n : Nat))) := by
          have := (Prod.mk.inj hx).1
          injection this
        intro i hi
        obtain ⟨y, hy, hf⟩ := mapM_get _ _ _ hxs i i (by rw [List.getElem?_range hi])
        have hc : ∃ c, cs.toList[i]? = some c := ⟨_, List.getElem?_eq_getElem (by omega)⟩
        obtain ⟨c, hc⟩ := hc
        have e1 : (cs.toList.drop (i * 1)).take 1 = [c] := by
          rw [Nat.mul_one]
          have := List.getElem?_eq_some_iff.1 hc
          obtain ⟨hlt, rfl⟩ := this
          rw [List.drop_eq_getElem_cons hlt, List.take_succ_cons, List.take_zero]
        rw [e1] at hf
        obtain ⟨n, hn, hyn, _⟩ := DataW.trod_int Tryd.underlying5 hf
        injection hn with hn
        have e2 : (xs.map (·.1))[i]? = some (.lit (.int .u8 n)) := by rw [List.getElem?_map, hy, hyn]; rfl
        rw [hx1, List.getElem?_map, tab_get i hi] at e2
        have e3 : ((tab.getD i 0 : Nat) : Int) = n := by
          injection e2 with e2
          injection e2 with e2
          injection e2
        have := World.var?_cell hg hvar i
        rw [this, ← Array.getElem?_toList, hc, hn, e3]
      · cases hd
  refine ⟨?_, key⟩
  exact World.block_lt_of_cell? W ⟨1, 0, none⟩ (key 0 (by omega))

/-- WHAT THE WALK IS TOLD OF A SLICE OF FLOATS THAT CAME IN. -/
def IsRow (w : World) (a : Option Addr) (len cap : Nat) : Prop :=
  (a = none ∧ len = 0 ∧ cap = 0) ∨ ∃ x, a = some x ∧ len ≤ cap ∧ cap ≤ maxLen ∧ ∀ i, i < len → ∃ b, w.cell? (x.add i) = some (.float .f64 b) ∧ b < 18446744073709551616
theorem trod_float {H : Type} {enc : TypeId × Value → H} {P : Program} {w : World} {base : Nat} {spare : Nat → Bool} {held : Bool} {fuel : Nat} {t : TypeId} {cs : List Value} {x : DataW H × List MemPlace} {k : FloatKind} (ht : P.underlying t = some (.float k)) (h : DataW.trod enc P w base spare held fuel t cs = some x) : ∃ n, cs = [.float k n] ∧ (Lit.float k n).wf = true := by
  cases fuel with
  | zero => simp [DataW.trod] at h
  | succ n =>
    unfold DataW.trod at h
    rw [ht] at h
    split at h <;> simp_all
theorem row_of {H : Type} {enc : TypeId × Value → H} {W : World} {base : Nat} {spare : Nat → Bool} {held : Bool} {fuel : Nat} {a : Option Addr} {len cap : Nat} {x : DataW H × List MemPlace} (h : DataW.trod enc Tryd.prog W base spare held fuel 22 [.slice a len cap] = some x) : IsRow W a len cap := by
  rcases DataW.trod_slice Tryd.underlying22 h with ⟨h0, _⟩ | ⟨y, l, c, elems, rest, n, _, hcs, _, _, hl, hm, hlen, hel, _, _⟩
  · simp at h0
    exact .inl h0
  · simp at hcs
    obtain ⟨rfl, rfl, rfl⟩ := hcs
    refine .inr ⟨y, rfl, hl, hm, fun i hi => ?_⟩
    have h1 := hel i hi
    rw [List.getElem?_eq_getElem (by omega), cells25, Nat.mul_one, Option.bind_eq_some_iff] at h1
    obtain ⟨cs', hc, ht⟩ := h1
    obtain ⟨b, rfl, hw⟩ := trod_float Tryd.underlying25 ht
    exact ⟨b, cell_of_cells?_one hc, by simpa [Lit.wf] using hw⟩

/-- The least number with a property. -/
theorem least {p : Nat → Prop} (n : Nat) : p n → ∃ b, b ≤ n ∧ p b ∧ ∀ t, t < b → ¬ p t := by
  induction n using Nat.strongRecOn with
  | ind n ih =>
    intro h
    by_cases hc : ∃ t, t < n ∧ p t
    · obtain ⟨t, ht, hp⟩ := hc
      obtain ⟨b, hb, hpb, hl⟩ := ih t ht hp
      exact ⟨b, by omega, hpb, hl⟩
    · exact ⟨n, Nat.le_refl _, h, fun t ht hp => hc ⟨t, ht, hp⟩⟩

theorem walk (a : Option Addr) (len cap : Nat) (w : World) (hT : Tab w) (hr : IsRow w a len cap) : Calls Tryd.prog 3 #[.slice a len cap] w (Yes w) := by
  have hlen : len ≤ maxLen := by
    rcases hr with ⟨_, h, _⟩ | ⟨_, _, hl, hm, _⟩
    · rw [h]; exact Nat.zero_le _
    · exact Nat.le_trans hl hm
  by_cases h : 65536 < len
  · exact law_early a len cap w hlen h
  obtain ⟨X, hX, hb⟩ : ∃ X, Xs w a len X ∧ ∀ i, i < len → X i < 18446744073709551616 := by
    rcases hr with ⟨_, h0, _⟩ | ⟨x, rfl, hl, hm, hc⟩
    · exact ⟨fun _ => 0, fun hp => by omega, fun i hi => by omega⟩
    · have hch : ∀ i, ∃ b, i < len → w.cell? (x.add i) = some (.float .f64 b) ∧ b < 18446744073709551616 := fun i => by
        by_cases hi : i < len
        · obtain ⟨b, hb⟩ := hc i hi; exact ⟨b, fun _ => hb⟩
        · exact ⟨0, fun h => absurd h hi⟩
      refine ⟨fun i => Classical.choose (hch i), fun hp => ⟨x, rfl, ?_, fun i hi => (Classical.choose_spec (hch i) hi).1⟩, fun i hi => (Classical.choose_spec (hch i) hi).2⟩
      obtain ⟨b, hb, _⟩ := hc 0 hp
      have := World.block_lt_of_cell? w (x.add 0) hb
      simpa [Addr.add] using this
  by_cases hbad : ∃ t, t < len ∧ expo (X t) = 2047
  · obtain ⟨t, ht, hb2⟩ := hbad
    obtain ⟨b, hbt, hpb, hl⟩ := least (p := fun t => expo (X t) = 2047) t hb2
    exact law_bad a len cap b X w (by omega) hX (by omega) hpb hl
  · exact law_good a len cap X w (by omega) hT hX hb (fun t ht he => hbad ⟨t, ht, he⟩)
end Go.Proofs.Qxb6608777aDoor
