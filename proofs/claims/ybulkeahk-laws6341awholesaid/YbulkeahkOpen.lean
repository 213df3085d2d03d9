/-
  THE ARGUMENTS OF 'LawS6341AWhole' OPENED; the way out at once where they are too many.
-/
import Derived.Test.YbulkeahkRows
import Derived.Test.YbulkeahkLaw
import Derived.ProofKit
import Derived.OpenShut
import Derived.SizedLaws
import Derived.Deep.Slices
import Derived.Deep.SlicePairs
namespace Go.Proofs.Ybulkeahk
open Go.ChangeShapes Go.WideShapes Go.ChangeAt Go.RowKit

theorem add_plain' (b off i : Nat) : (⟨b, off, none⟩ : Addr).add i = ⟨b, off + i, none⟩ := by
  unfold Addr.add
  split
  · subst_vars; rfl
  · rfl

/-- A slice of numbers. -/
theorem ints_in {H : Type} {enc : TypeId × Value → H} {W : World} {t e : TypeId} {kd : IntKind} {a : Option Addr} {n c : Nat} {d : DataW H} {p : List MemPlace} (ht : Yba.prog.underlying t = some (.slice e)) (he : Yba.prog.underlying e = some (.int kd)) (hc : Yba.prog.cellsOf e = 1)
    (h : DataW.Trod enc Yba.prog W 0 (fun _ => true) true t (.slice a n c) d p) :
    ∃ f : Nat → Int, IntsIn W kd a n f ∧ (∀ k, (Lit.int kd (f k)).wf = true) ∧ (n = 0 ∨ ∃ elems spare, d = .slice elems spare ∧ elems.length = n) := by
  have w0 : (Lit.int kd 0).wf = true := by cases kd <;> decide
  obtain ⟨fuel, hf⟩ := h
  rcases open_ints ht he hc hf with ⟨hcs, _⟩ | ⟨a', len', cap', zs, hcs, _, hl, hm, hz, hx, hcell, hwz⟩
  · simp [Value.cells] at hcs
    obtain ⟨rfl, rfl, rfl⟩ := hcs
    exact ⟨fun _ => 0, .inl rfl, fun _ => w0, .inl rfl⟩
  · simp [Value.cells] at hcs
    obtain ⟨rfl, rfl, rfl⟩ := hcs
    simp only [if_true] at hz
    simp only [Prod.mk.injEq] at hx
    refine ⟨fun k => zs.getD k 0, ?_, fun k => ?_, .inr ⟨_, _, hx.1, by simp [lits]; omega⟩⟩
    · by_cases h0 : n = 0
      · exact .inl h0
      right
      obtain ⟨b, off, spot⟩ := a'
      have hspot : spot = none := by simpa [Addr.add] using World.cell?_spot (hcell 0 (by omega))
      subst hspot
      refine ⟨b, off, rfl, World.block_lt_of_cell? W ⟨b, off, none⟩ (by simpa [Addr.add] using hcell 0 (by omega)), fun k hk => ?_⟩
      rw [← add_plain']
      exact hcell k (by omega)
    · by_cases hk : k < zs.length
      · simp only [List.getD, List.getElem?_eq_getElem hk, Option.getD_some]
        exact hwz _ (List.getElem_mem hk)
      · simp only [List.getD, List.getElem?_eq_none (by omega : zs.length ≤ k), Option.getD_none]
        exact w0

/-- A slice of raw entries. -/
theorem raw_in {H : Type} {enc : TypeId × Value → H} {W : World} {a : Option Addr} {n c : Nat} {d : DataW H} {p : List MemPlace} (h : DataW.Trod enc Yba.prog W 0 (fun _ => true) true 24 (.slice a n c) d p) :
    ∃ X Y : Nat → Int, RawIn W a n X Y ∧ (∀ k, 0 ≤ X k ∧ X k ≤ 255) ∧ (∀ k, 0 ≤ Y k ∧ Y k ≤ 18446744073709551615) ∧ (n = 0 ∨ ∃ elems spare, d = .slice elems spare ∧ elems.length = n) := by
  have c68 : Yba.prog.cellsOf 68 = 2 := by kernel_rfl
  have c5 : Yba.prog.cellsOf 5 = 1 := by kernel_rfl
  have c26 : Yba.prog.cellsOf 26 = 1 := by kernel_rfl
  obtain ⟨fuel, hf⟩ := h
  rcases Deep.open_slice_pairs Yba.underlying24 Yba.underlying68 c68 rfl rfl c5 c26 hf with ⟨hcs, _⟩ | ⟨a', len', cap', m, k0, V0, V1, D0, D1, P0, P1, hcs, _, hl, hm, hmm, hx, hall⟩
  · simp [Value.cells] at hcs
    obtain ⟨rfl, rfl, rfl⟩ := hcs
    exact ⟨fun _ => 0, fun _ => 0, .inl rfl, fun _ => ⟨by simp, by simp⟩, fun _ => ⟨by simp, by simp⟩, .inl rfl⟩
  · simp [Value.cells] at hcs
    obtain ⟨rfl, rfl, rfl⟩ := hcs
    simp only [Prod.mk.injEq] at hx
    have hlm : n ≤ m := by rw [hmm]; split <;> omega
    have each : ∀ i, i < n → ∃ q : Int × Int, (W.cell? (a'.add (i * 2)) = some (.int .u8 q.1) ∧ W.cell? (a'.add (i * 2 + 1)) = some (.int .u64 q.2)) ∧ (0 ≤ q.1 ∧ q.1 ≤ 255) ∧ (0 ≤ q.2 ∧ q.2 ≤ 18446744073709551615) := by
      intro i hi
      obtain ⟨g0, g1, g2, g3⟩ := hall i (by omega)
      obtain ⟨x, e0, _, w0⟩ := DataW.trod_int Yba.underlying5 g2
      obtain ⟨y, e1, _, w1⟩ := DataW.trod_int Yba.underlying26 g3
      simp at e0 e1
      rw [e0] at g0
      rw [e1] at g1
      exact ⟨(x, y), ⟨g0, g1⟩, bounds_u8 w0, bounds_u64 w1⟩
    obtain ⟨q, hq⟩ := @Deep.choose_lt (Int × Int) ⟨(0, 0)⟩ _ _ each
    refine ⟨fun k => if k < n then (q k).1 else 0, fun k => if k < n then (q k).2 else 0, ?_, fun k => ?_, fun k => ?_, .inr ⟨_, _, hx.1, by simp⟩⟩
    · by_cases h0 : n = 0
      · exact .inl h0
      right
      obtain ⟨b, off, spot⟩ := a'
      have hspot : spot = none := by simpa [Addr.add] using World.cell?_spot (hq 0 (by omega)).1.1
      subst hspot
      refine ⟨b, off, rfl, World.block_lt_of_cell? W ⟨b, off, none⟩ (by simpa [Addr.add] using (hq 0 (by omega)).1.1), fun k hk => ?_⟩
      have := (hq k hk).1
      rw [add_plain', add_plain'] at this
      simp only [if_pos hk]
      exact this
    · simp only
      split
      · exact (hq k ‹_›).2.1
      · exact ⟨by decide, by decide⟩
    · simp only
      split
      · exact (hq k ‹_›).2.2
      · exact ⟨by decide, by decide⟩

set_option maxRecDepth 100000 in
/-- Too many: true at once. -/
theorem law_early (nh : Int) (am aa ar a0 a1 : Option Addr) (nm na nr n0 n1 cm ca cr c0 c1 : Nat) (host0 own0 host1 own1 sel : Int) (w : World) (hbig : 1048576 < nm + na + nr + n0 + n1)
    (_b1 : nm ≤ 140737488351232) (_b2 : na ≤ 140737488351232) (_b3 : nr ≤ 140737488351232) (_b4 : n0 ≤ 140737488351232) (_b5 : n1 ≤ 140737488351232) :
    Calls Yba.prog 3 #[.int .u8 nh, .slice am nm cm, .slice aa na ca, .slice ar nr cr, .slice a0 n0 c0, .slice a1 n1 c1, .int .u32 host0, .int .u64 own0, .int .u32 host1, .int .u64 own1, .int .u8 sel] w fun e w' => e = .returned (.bool true) ∧ w' = w := by
  go_enter Yba.func3, Yba.ntmps3
  go_wp2
  go_ret
  exact ⟨rfl, rfl⟩

end Go.Proofs.Ybulkeahk
