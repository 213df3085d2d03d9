/-
  THE ENTRIES OF A CLOCK IN MEMORY; 'zzs6341aconv' AND 'zzs6341aeq' BY THEIR CONTRACTS.
-/
import Derived.Test.YbulkeahkProg
import Derived.WalkKit
import Derived.WalkSpells
import Derived.WalkLawsBesides
import Derived.Deep.QuietTactic
import Derived.BigQuiet
import Derived.BigRegion
import Derived.RegionTactic
import Derived.Laws.StructEq
import Derived.Deep.OwnRows
namespace Go.Proofs.Ybulkeahk
open Go.RowKit Go.Deep

structure Ent where
  h : Nat
  n : Int
def Ent.cells (z : Ent) : List Value := [.int .i64 z.h, .int .u64 z.n]
def zeroEnt : Ent := ⟨0, 0⟩
def rowE (Z : Nat → Ent) (n : Nat) : List Value := (List.range n).flatMap fun i => (Z i).cells
theorem rowE_succ (Z : Nat → Ent) (n : Nat) : rowE Z (n + 1) = rowE Z n ++ (Z n).cells := by
  unfold rowE
  rw [List.range_succ, List.flatMap_append]
  simp
theorem rowE_length (Z : Nat → Ent) (n : Nat) : (rowE Z n).length = n * 2 := by
  induction n with
  | zero => rfl
  | succ n ih => rw [rowE_succ, List.length_append, ih]; simp [Ent.cells]; omega
theorem rowE_at (Z : Nat → Ent) (n i j : Nat) (hi : i < n) (hj : j < 2) : (rowE Z n)[i * 2 + j]? = (Z i).cells[j]? := by
  induction n with
  | zero => omega
  | succ n ih =>
    rw [rowE_succ]
    by_cases h : i < n
    · rw [List.getElem?_append_left (by rw [rowE_length]; omega)]
      exact ih h
    · obtain rfl : i = n := by omega
      rw [List.getElem?_append_right (by rw [rowE_length]; omega), rowE_length]
      congr 1
      omega
theorem rowE_congr {Z Z' : Nat → Ent} {n : Nat} (h : ∀ i, i < n → Z i = Z' i) : rowE Z n = rowE Z' n := by
  unfold rowE
  rw [List.flatMap_def, List.flatMap_def, List.map_congr_left fun i hi => by rw [h i (List.mem_range.1 hi)]]

/-- n entries lie from place o of block b on. -/
def EntsAt (w : World) (b o : Nat) (Z : Nat → Ent) (n : Nat) : Prop :=
  ∀ k, k < n → w.cell? ⟨b, o + k * 2, none⟩ = some (.int .i64 (Z k).h) ∧ w.cell? ⟨b, o + k * 2 + 1, none⟩ = some (.int .u64 (Z k).n)
theorem EntsAt.later {w w' : World} {b o : Nat} {Z : Nat → Ent} {n : Nat} (h : EntsAt w b o Z n) (hb : Below w.heap.size w w') : EntsAt w' b o Z n :=
  fun k hk => ⟨cell_later hb (h k hk).1, cell_later hb (h k hk).2⟩
theorem entsAt_row {w : World} {b : Nat} {Z : Nat → Ent} {n : Nat} {t : TypeId} {fr : Nat × Nat} (h : w.heap[b]? = some (.cells (rowE Z n).toArray t fr)) : EntsAt w b 0 Z n := by
  intro k hk
  have h0 := rowE_at Z n k 0 hk (by omega)
  have h1 := rowE_at Z n k 1 hk (by omega)
  simp only [Nat.add_zero] at h0
  constructor <;> simp [World.cell?, h, h0, h1, Ent.cells]

theorem Yba.info64 : (Yba.prog.info? 64).map (fun i => (i.zero, i.size, i.bytes)) = some (some (.agg #[.int .i64 0, .int .u64 0]), 2, 16) := by kernel_rfl

/-- The row while it is being filled: k entries laid, the rest nought. -/
def midE (Z : Nat → Ent) (k : Nat) : Nat → Ent := fun i => if i < k then Z i else zeroEnt

theorem made_row (n : Nat) : (madeCells #[.int .i64 0, .int .u64 0] (n * 2)).toList = rowE (fun _ => zeroEnt) n := by
  apply List.ext_getElem?
  intro i
  by_cases hi : i < n * 2
  · have e : i = i / 2 * 2 + i % 2 := by omega
    have hr := rowE_at (fun _ => zeroEnt) n (i / 2) (i % 2) (by omega) (by omega)
    rw [← e] at hr
    rw [hr]
    have hm : i % 2 = 0 ∨ i % 2 = 1 := by omega
    rcases hm with hm | hm <;> simp [madeCells, hi, hm, Ent.cells, zeroEnt]
  · rw [List.getElem?_eq_none (by simp [size_madeCells]; omega), List.getElem?_eq_none (by rw [rowE_length]; omega)]

theorem own_full {w : World} {base : Nat} {e : TypeId} {size g n : Nat} {xs : List Value} (h : w.ownsRow base e size (.slice (some ⟨g, 0, none⟩) n n) n xs) : w.heap[g]? = some (.cells xs.toArray e (0, 0)) := by
  obtain ⟨_, ⟨h1, _⟩ | ⟨g', cap', cur, h1, _, h2, _, _, h3, h4⟩⟩ := h
  · cases h1
  · simp only [Value.slice.injEq, Option.some.injEq, Addr.mk.injEq] at h1
    obtain ⟨⟨rfl, -⟩, -, rfl⟩ := h1
    rw [List.take_of_length_le (by simp; omega)] at h4
    rw [h2, ← h4]

/-- Two stores into one row: the entry k is laid. -/
theorem midE_store {Z : Nat → Ent} {n k : Nat} (hk : k < n) {W : World} {g : Nat} (h : W.heap[g]? = some (.cells (rowE (midE Z k) n).toArray 64 (0, 0))) :
    ((W.setCell ⟨g, k * 2, none⟩ (.int .i64 (Z k).h)).setCell ⟨g, k * 2 + 1, none⟩ (.int .u64 (Z k).n)).heap[g]? = some (.cells (rowE (midE Z (k + 1)) n).toArray 64 (0, 0)) := by
  rw [setCell_eq_setRow W g (k * 2) _ 64 (0, 0) _ h]
  rw [setCell_eq_setRow _ g (k * 2 + 1) _ 64 (0, 0) _ (setRow_heap W g _ _ 64 _ h)]
  rw [setRow_heap _ g _ _ 64 _ (setRow_heap W g _ _ 64 _ h)]
  congr 2
  apply Array.ext'
  apply List.ext_getElem?
  intro i
  simp only [Array.toList_setIfInBounds, List.getElem?_set, List.length_set, rowE_length]
  by_cases hi : i < n * 2
  · have e : i = i / 2 * 2 + i % 2 := by omega
    have hr := rowE_at (midE Z (k + 1)) n (i / 2) (i % 2) (by omega) (by omega)
    have hr0 := rowE_at (midE Z k) n (i / 2) (i % 2) (by omega) (by omega)
    rw [← e] at hr hr0
    rw [hr, hr0]
    by_cases hik : i / 2 = k
    · have hm : i % 2 = 0 ∨ i % 2 = 1 := by omega
      rcases hm with hm | hm
      · have e1 : ¬ k * 2 + 1 = i := by omega
        have e2 : k * 2 = i := by omega
        rw [if_neg e1, if_pos e2, if_pos (by omega)]
        simp [midE, hik, hm, Ent.cells]
      · have e1 : k * 2 + 1 = i := by omega
        rw [if_pos e1, if_pos (by omega)]
        simp [midE, hik, hm, Ent.cells]
    · rw [if_neg (by omega), if_neg (by omega)]
      have : (i / 2 < k + 1) ↔ (i / 2 < k) := by omega
      simp [midE, this]
  · rw [if_neg (by omega), if_neg (by omega), List.getElem?_eq_none (by rw [rowE_length]; omega), List.getElem?_eq_none (by rw [rowE_length]; omega)]

theorem midE_zero (Z : Nat → Ent) (n : Nat) : rowE (midE Z 0) n = rowE (fun _ => zeroEnt) n := rowE_congr fun i _ => by simp [midE]
theorem midE_full (Z : Nat → Ent) (n : Nat) : rowE (midE Z n) n = rowE Z n := rowE_congr fun i hi => by simp [midE, hi]

set_option maxHeartbeats 1000000 in
theorem conv_any (a : Option Addr) (n c h : Nat) (X : Nat → Int) (Y : Nat → Int) (w : World) (hn : n ≤ 1048576) (h1 : 1 ≤ h) (h8 : h ≤ 8) (hX : ∀ k, 0 ≤ X k ∧ X k ≤ 255)
    (hcase : n = 0 ∨ ∃ b off, a = some ⟨b, off, none⟩ ∧ b < w.heap.size ∧ ∀ k, k < n → w.cell? ⟨b, off + k * 2, none⟩ = some (.int .u8 (X k)) ∧ w.cell? ⟨b, off + k * 2 + 1, none⟩ = some (.int .u64 (Y k))) :
    Calls Yba.prog 4 #[.slice a n c, .int .i64 h] w fun e w' => e = .returned (.slice (some ⟨w.heap.size, 0, none⟩) n n) ∧ w'.heap[w.heap.size]? = some (.cells (rowE (fun k => ⟨(X k % h).toNat, Y k⟩) n).toArray 64 (0, 0)) ∧ Below w.heap.size w w' := by
  obtain ⟨i0, hi, hz0, hz1, hz2⟩ := info_parts Yba.info64
  rcases (show Hid (n = 0) ∨ _ from hcase) with hcase | ⟨b, off, rfl, hbb, hcase⟩
  all_goals
    go_enter Yba.func4, Yba.ntmps4
    go_wp2_with (at_make; refine wpList_make_full _ rfl _ _ 27 rfl w.heap.size 64 i0 _ 2 Yba.underlying27 hi hz0 hz1 .i64 .i64 _ _ n rfl rfl rfl rfl (by rw [hz2]; omega) (by unfold maxLen; omega) (Nat.le_refl _) ?_)
    intro w1 hown hgr
    have HG : Hid (w1.heap[w.heap.size]? = some (.cells (rowE (midE (fun k => ⟨(X k % h).toNat, Y k⟩) 0) n).toArray 64 (0, 0))) := by
      show _ = _
      rw [own_full hown, midE_zero]
      exact congrArg (fun l => some (Obj.cells (List.toArray l) 64 (0, 0))) (made_row n)
    have hB1 : Below w.heap.size w w1 := (Below.refl _ _).grown hgr (Nat.le_refl _) (by simp)
    clear hgr hown
    go_wp2
    go_loopw [13] (fun i wr => ∃ k : Nat, k ≤ n ∧ i = .int .i64 k ∧ Hid (wr.heap[w.heap.size]? = some (.cells (rowE (midE (fun k => ⟨(X k % h).toNat, Y k⟩) k) n).toArray 64 (0, 0))) ∧ Below w.heap.size w wr) (fun i _ => n - (intOf i).toNat)
    case atStart => exact ⟨0, Nat.zero_le _, rfl, HG, hB1⟩
    case round =>
      clear HG hB1
      obtain ⟨k, hk, rfl, HG, hB⟩ := hrel
      have hs : w.heap.size < wr.heap.size := (Array.getElem?_eq_some_iff.1 HG.out).1
      by_cases hlt : k < n
      · first
        | (exfalso; have h0 := hcase.out; omega)
        | (obtain ⟨g0, g1⟩ := hcase k hlt
           have g0 := cell_later hB g0
           have g1 := cell_later hB g1
           obtain ⟨hx0, hx1⟩ := hX k
           have hbw : b < wr.heap.size := by omega
           have E := entsAt_row HG.out k hlt
           simp only [Nat.zero_add] at E
           have q0 := E.1
           have q1 := E.2
           have f0 : wr.frozen? ⟨w.heap.size, k * 2, none⟩ = false := by have := HG.out; simp [World.frozen?, this]
           have f1 : wr.frozen? ⟨w.heap.size, k * 2 + 1, none⟩ = false := by have := HG.out; simp [World.frozen?, this]
           clear hcase E
           go_wp2
           go_region
           go_wp2
           go_roundw
           case rel =>
             refine ⟨k + 1, by omega, by go_num, ?_, ?_⟩
             · show (World.alloc _ _).heap[w.heap.size]? = _
               rw [Below.heap_alloc _ _ _ (by simpa using hs)]
               have e : (X k % (h : Int)) = (((X k % (h : Int)).toNat : Nat) : Int) := (Int.toNat_of_nonneg (Int.emod_nonneg _ (by omega))).symm
               have := midE_store (Z := fun k => ⟨(X k % (h : Int)).toNat, Y k⟩) hlt HG.out
               simp only at this
               rw [← e] at this
               exact this
             · exact (((hB.setCell (Nat.le_refl _) _).setCell (Nat.le_refl _) _).alloc (by simp; omega) _).drew
           case measure => simp [intOf]; omega)
      · obtain rfl : n = k := by omega
        go_wp2
        go_ret
        rw [← midE_full]
        exact ⟨rfl, HG.out, hB⟩


set_option maxHeartbeats 1000000 in
/-- Two slices that hold the same entries. -/
theorem eq_some (b1 o1 b2 o2 n c1 c2 : Nat) (Z : Nat → Ent) (w : World) (hn : n ≤ 1048576) (h1 : EntsAt w b1 o1 Z n) (h2 : EntsAt w b2 o2 Z n) :
    Calls Yba.prog 6 #[.slice (some ⟨b1, o1, none⟩) n c1, .slice (some ⟨b2, o2, none⟩) n c2] w fun e w' => e = .returned (.bool true) ∧ ∃ q, w' = w.drewN q := by
  have H : Hid (EntsAt w b1 o1 Z n ∧ EntsAt w b2 o2 Z n) := ⟨h1, h2⟩
  clear h1 h2
  go_enter Yba.func6, Yba.ntmps6
  go_wp2
  go_loopw [13] (fun i wr => ∃ k q : Nat, k ≤ n ∧ i = .int .i64 k ∧ wr = w.drewN q) (fun i _ => n - (intOf i).toNat)
  case atStart => exact ⟨0, 0, Nat.zero_le _, rfl, rfl⟩
  case round =>
    obtain ⟨k, q, hk, rfl, rfl⟩ := hrel
    by_cases hlt : k < n
    · obtain ⟨a0, a1⟩ := H.out.1 k hlt
      obtain ⟨c0, c1'⟩ := H.out.2 k hlt
      have a0 : (w.drewN q).cell? ⟨b1, o1 + k * 2, none⟩ = some (.int .i64 (Z k).h) := a0
      have a1 : (w.drewN q).cell? ⟨b1, o1 + k * 2 + 1, none⟩ = some (.int .u64 (Z k).n) := a1
      have c0 : (w.drewN q).cell? ⟨b2, o2 + k * 2, none⟩ = some (.int .i64 (Z k).h) := c0
      have c1' : (w.drewN q).cell? ⟨b2, o2 + k * 2 + 1, none⟩ = some (.int .u64 (Z k).n) := c1'
      go_wp2
      go_quiet (fail)
      go_wp2
      go_roundw
      case rel => exact ⟨k + 1, _, by omega, by go_num, rfl⟩
      case measure => simp [intOf]; omega
    · go_wp2
      go_ret
      exact ⟨rfl, _, rfl⟩

theorem eq_empty (a b : Option Addr) (c1 c2 : Nat) (w : World) :
    Calls Yba.prog 6 #[.slice a 0 c1, .slice b 0 c2] w fun e w' => e = .returned (.bool true) ∧ w' = w := by
  go_enter Yba.func6, Yba.ntmps6
  go_wp2
  refine wp_loop_rounds 1 ?_
  rw [rounds_succ]
  go_wp2
  go_ret
  exact ⟨rfl, rfl⟩

/-- The contract that the law meets. -/
theorem eq_any (a : Addr) (b1 o1 b2 o2 n c1 c2 : Nat) (Z : Nat → Ent) (w : World) (hn : n ≤ 1048576) (ha : 0 < n → a = ⟨b1, o1, none⟩) (h1 : EntsAt w b1 o1 Z n) (h2 : EntsAt w b2 o2 Z n) :
    Calls Yba.prog 6 #[.slice (some a) n c1, .slice (some ⟨b2, o2, none⟩) n c2] w fun e w' => e = .returned (.bool true) ∧ ∃ q, w' = w.drewN q := by
  by_cases h0 : n = 0
  · subst h0
    refine (eq_empty (some a) (some ⟨b2, o2, none⟩) c1 c2 w).mono ?_
    rintro e w' ⟨he, hw⟩
    exact ⟨he, 0, by simpa [World.drewN] using hw⟩
  · rw [ha (by omega)]
    exact eq_some b1 o1 b2 o2 n c1 c2 Z w hn h1 h2

end Go.Proofs.Ybulkeahk
