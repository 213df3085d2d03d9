/-
  WHAT LIES IN MEMORY WHEN 'LawS6341AWhole' CALLS notBefore: one bundle of facts, and that it stays.
-/
import Derived.Test.YbulkeahkFill
namespace Go.Proofs.Ybulkeahk
open Go.RowKit Go.Deep

structure Env (W : World) (B h b1 b2 b3 b4 blk evb nr n0 n1 : Nat) (M A : Nat → Int) (R C0 C1 : Nat → Ent) (host0 own0 host1 own1 : Int) : Prop where
  met : ∀ j, j < h → W.cell? ⟨B, j, none⟩ = some (.int .i64 (M j))
  atv : ∀ j, j < h → W.cell? ⟨B + 1, j, none⟩ = some (.int .u64 (A j))
  atc : ∀ j, j < h → W.cell? ⟨B + 1 + 1, j, none⟩ = some (.int .u64 (A j))
  r1 : EntsAt W b1 0 R nr
  r2 : EntsAt W b2 0 R nr
  k0 : EntsAt W b3 0 C0 n0
  k1 : EntsAt W b4 0 C1 n1
  q0 : EntsAt W blk 0 C0 n0
  q1 : EntsAt W blk (n0 * 2) C1 n1
  e0 : W.cell? ⟨evb, 0, none⟩ = some (.int .u32 host0)
  e2 : W.cell? ⟨evb, 2, none⟩ = some (.int .u64 own0)
  e5 : W.cell? ⟨evb, 5, none⟩ = some (.int .u32 host1)
  e7 : W.cell? ⟨evb, 7, none⟩ = some (.int .u64 own1)
theorem Env.later {W W' : World} {B h b1 b2 b3 b4 blk evb nr n0 n1 : Nat} {M A : Nat → Int} {R C0 C1 : Nat → Ent} {host0 own0 host1 own1 : Int} (E : Env W B h b1 b2 b3 b4 blk evb nr n0 n1 M A R C0 C1 host0 own0 host1 own1) (hb : Below W.heap.size W W') :
    Env W' B h b1 b2 b3 b4 blk evb nr n0 n1 M A R C0 C1 host0 own0 host1 own1 :=
  ⟨fun j hj => cell_later hb (E.met j hj), fun j hj => cell_later hb (E.atv j hj), fun j hj => cell_later hb (E.atc j hj), E.r1.later hb, E.r2.later hb, E.k0.later hb, E.k1.later hb, E.q0.later hb, E.q1.later hb, cell_later hb E.e0, cell_later hb E.e2, cell_later hb E.e5, cell_later hb E.e7⟩

theorem entsAt_two {w : World} {b : Nat} {Z Z' : Nat → Ent} {n n' : Nat} {t : TypeId} {fr : Nat × Nat} (h : w.heap[b]? = some (.cells (rowE Z n ++ rowE Z' n').toArray t fr)) : EntsAt w b 0 Z n ∧ EntsAt w b (n * 2) Z' n' := by
  constructor
  · intro k hk
    have h0 := rowE_at Z n k 0 hk (by omega)
    have h1 := rowE_at Z n k 1 hk (by omega)
    simp only [Nat.add_zero] at h0
    have hl := rowE_length Z n
    have a0 : (rowE Z n ++ rowE Z' n')[k * 2]? = some (.int .i64 (Z k).h) := by rw [List.getElem?_append_left (by omega), h0]; rfl
    have a1 : (rowE Z n ++ rowE Z' n')[k * 2 + 1]? = some (.int .u64 (Z k).n) := by rw [List.getElem?_append_left (by omega), h1]; rfl
    constructor <;> simp only [World.cell?, h, Nat.zero_add] <;> simp [a0, a1]
  · intro k hk
    have h0 := rowE_at Z' n' k 0 hk (by omega)
    have h1 := rowE_at Z' n' k 1 hk (by omega)
    simp only [Nat.add_zero] at h0
    have hl := rowE_length Z n
    have a0 : (rowE Z n ++ rowE Z' n')[n * 2 + k * 2]? = some (.int .i64 (Z' k).h) := by rw [List.getElem?_append_right (by omega), hl, Nat.add_sub_cancel_left, h0]; rfl
    have a1 : (rowE Z n ++ rowE Z' n')[n * 2 + k * 2 + 1]? = some (.int .u64 (Z' k).n) := by rw [List.getElem?_append_right (by omega), hl, show n * 2 + k * 2 + 1 - n * 2 = k * 2 + 1 by omega, h1]; rfl
    constructor <;> simp only [World.cell?, h] <;> simp [a0, a1]

/-- The world at the call. -/
def callW (w7 : World) (B h blk n0 n1 : Nat) (host0 own0 host1 own1 : Int) : World :=
  ((((((w7.alloc (.cells #[.int .u32 host0, .int .u32 0, .int .u64 own0, .int .i64 0, .int .i64 0, .int .u32 host1, .int .u32 0, .int .u64 own1, .int .i64 0, .int .i64 0] 30)).alloc
    (.cells #[.slice (some ⟨w7.heap.size, 0, none⟩) 2 2] 31)).alloc (.cells #[.slice (some ⟨blk, 0, none⟩) (n0 + n1) (n0 + n1)] 27)).alloc (.cells #[.int .u64 0, .int .u64 n0] 26)).alloc (.cells #[.slice (some ⟨w7.heap.size + 1 + 1 + 1, 0, none⟩) 2 2] 23)).alloc
    (.cells #[.slice none 0 0, .slice none 0 0, .int .i64 0, .slice (some ⟨B, 0, none⟩) h h, .slice (some ⟨w7.heap.size + 1, 0, none⟩) 1 1, .int .i64 2, .slice none 0 0, .slice none 0 0, .slice (some ⟨w7.heap.size + 1 + 1, 0, none⟩) 1 1,
      .slice (some ⟨w7.heap.size + 1 + 1 + 1 + 1, 0, none⟩) 1 1, .int .i64 2, .slice none 0 0, .slice none 0 0, .int .i64 0, .slice none 0 0, .int .u64 0, .int .i64 0, .slice none 0 0, .slice none 0 0, .slice none 0 0, .slice none 0 0, .slice none 0 0, .slice none 0 0, .map none] 57))
theorem callW_below (w7 : World) (B h blk n0 n1 : Nat) (host0 own0 host1 own1 : Int) : Below w7.heap.size w7 (callW w7 B h blk n0 n1 host0 own0 host1 own1) :=
  ((((((Below.refl _ _).alloc (Nat.le_refl _) _).alloc (by simp) _).alloc (by simp; omega) _).alloc (by simp; omega) _).alloc (by simp; omega) _).alloc (by simp; omega) _
theorem callW_log (w7 : World) (B h blk n0 n1 : Nat) (host0 own0 host1 own1 : Int) :
    LogAt (callW w7 B h blk n0 n1 host0 own0 host1 own1) (w7.heap.size + 1 + 1 + 1 + 1 + 1) B h (w7.heap.size + 1) w7.heap.size (w7.heap.size + 1 + 1) blk (w7.heap.size + 1 + 1 + 1 + 1) (w7.heap.size + 1 + 1 + 1) n0 n1 := by
  unfold callW
  constructor <;> simp [go_sem]
theorem callW_evs (w7 : World) (B h blk n0 n1 : Nat) (host0 own0 host1 own1 : Int) :
    (callW w7 B h blk n0 n1 host0 own0 host1 own1).cell? ⟨w7.heap.size, 0, none⟩ = some (.int .u32 host0) ∧ (callW w7 B h blk n0 n1 host0 own0 host1 own1).cell? ⟨w7.heap.size, 2, none⟩ = some (.int .u64 own0) ∧
    (callW w7 B h blk n0 n1 host0 own0 host1 own1).cell? ⟨w7.heap.size, 5, none⟩ = some (.int .u32 host1) ∧ (callW w7 B h blk n0 n1 host0 own0 host1 own1).cell? ⟨w7.heap.size, 7, none⟩ = some (.int .u64 own1) := by
  unfold callW
  refine ⟨?_, ?_, ?_, ?_⟩ <;> simp [go_sem]


/-- Four stores into the wanted problem. -/
theorem want4 {wo W : World} (hz : W.heap[wo.heap.size]? = some zeroP) (hB : Below wo.heap.size wo W) (a b c d : Int) :
    ((((W.setCell ⟨wo.heap.size, 0, none⟩ (.int .i64 a)).setCell ⟨wo.heap.size, 1, none⟩ (.int .i64 b)).setCell ⟨wo.heap.size, 2, none⟩ (.int .i64 c)).setCell ⟨wo.heap.size, 3, none⟩ (.int .u8 d)).cell? ⟨wo.heap.size, 0, none⟩ = some (.int .i64 a) ∧
    ((((W.setCell ⟨wo.heap.size, 0, none⟩ (.int .i64 a)).setCell ⟨wo.heap.size, 1, none⟩ (.int .i64 b)).setCell ⟨wo.heap.size, 2, none⟩ (.int .i64 c)).setCell ⟨wo.heap.size, 3, none⟩ (.int .u8 d)).cell? ⟨wo.heap.size, 1, none⟩ = some (.int .i64 b) ∧
    ((((W.setCell ⟨wo.heap.size, 0, none⟩ (.int .i64 a)).setCell ⟨wo.heap.size, 1, none⟩ (.int .i64 b)).setCell ⟨wo.heap.size, 2, none⟩ (.int .i64 c)).setCell ⟨wo.heap.size, 3, none⟩ (.int .u8 d)).cell? ⟨wo.heap.size, 2, none⟩ = some (.int .i64 c) ∧
    ((((W.setCell ⟨wo.heap.size, 0, none⟩ (.int .i64 a)).setCell ⟨wo.heap.size, 1, none⟩ (.int .i64 b)).setCell ⟨wo.heap.size, 2, none⟩ (.int .i64 c)).setCell ⟨wo.heap.size, 3, none⟩ (.int .u8 d)).cell? ⟨wo.heap.size, 3, none⟩ = some (.int .u8 d) ∧
    Below wo.heap.size wo ((((W.setCell ⟨wo.heap.size, 0, none⟩ (.int .i64 a)).setCell ⟨wo.heap.size, 1, none⟩ (.int .i64 b)).setCell ⟨wo.heap.size, 2, none⟩ (.int .i64 c)).setCell ⟨wo.heap.size, 3, none⟩ (.int .u8 d)) := by
  have hb := (((hB.setCell (p := ⟨wo.heap.size, 0, none⟩) (Nat.le_refl _) (.int .i64 a)).setCell (p := ⟨wo.heap.size, 1, none⟩) (Nat.le_refl _) (.int .i64 b)).setCell (p := ⟨wo.heap.size, 2, none⟩) (Nat.le_refl _) (.int .i64 c)).setCell (p := ⟨wo.heap.size, 3, none⟩) (Nat.le_refl _) (.int .u8 d)
  have hg : ((((W.setCell ⟨wo.heap.size, 0, none⟩ (.int .i64 a)).setCell ⟨wo.heap.size, 1, none⟩ (.int .i64 b)).setCell ⟨wo.heap.size, 2, none⟩ (.int .i64 c)).setCell ⟨wo.heap.size, 3, none⟩ (.int .u8 d)).heap[wo.heap.size]? = some (.cells #[.int .i64 a, .int .i64 b, .int .i64 c, .int .u8 d] 60 (0, 0)) := by
    unfold zeroP at hz
    have h1 := setRow_heap W wo.heap.size _ (Array.setIfInBounds #[.int .i64 0, .int .i64 0, .int .i64 0, .int .u8 0] 0 (.int .i64 a)) 60 _ hz
    rw [← setCell_eq_setRow W wo.heap.size 0 _ 60 (0, 0) _ hz] at h1
    have h2 := setRow_heap _ wo.heap.size _ (Array.setIfInBounds (Array.setIfInBounds #[.int .i64 0, .int .i64 0, .int .i64 0, .int .u8 0] 0 (.int .i64 a)) 1 (.int .i64 b)) 60 _ h1
    rw [← setCell_eq_setRow _ wo.heap.size 1 _ 60 (0, 0) _ h1] at h2
    have h3 := setRow_heap _ wo.heap.size _ (Array.setIfInBounds (Array.setIfInBounds (Array.setIfInBounds #[.int .i64 0, .int .i64 0, .int .i64 0, .int .u8 0] 0 (.int .i64 a)) 1 (.int .i64 b)) 2 (.int .i64 c)) 60 _ h2
    rw [← setCell_eq_setRow _ wo.heap.size 2 _ 60 (0, 0) _ h2] at h3
    rw [setCell_eq_setRow _ wo.heap.size 3 _ 60 (0, 0) _ h3, setRow_heap _ wo.heap.size _ _ 60 _ h3]
    rfl
  refine ⟨?_, ?_, ?_, ?_, hb⟩ <;> simp [World.cell?, hg]

end Go.Proofs.Ybulkeahk
