/-
  THE ROWS OF NUMBERS THAT 'LawS6341AWhole' FILLS AHEAD OF ITS CALL: plain facts on rows and worlds.
-/
import Derived.Test.YbulkeahkNb
import Derived.Deep.OwnRows
namespace Go.Proofs.Ybulkeahk
open Go.RowKit Go.Deep

theorem Yba.info3 : (Yba.prog.info? 3).map (fun i => (i.zero, i.size, i.bytes)) = some (some (.int .i64 0), 1, 8) := by kernel_rfl
theorem Yba.info26 : (Yba.prog.info? 26).map (fun i => (i.zero, i.size, i.bytes)) = some (some (.int .u64 0), 1, 8) := by kernel_rfl

/-- A row of h numbers of a kind. -/
def rowK (kd : IntKind) (f : Nat → Int) (h : Nat) : List Value := (List.range h).map fun j => .int kd (f j)
def rowObj (kd : IntKind) (t : TypeId) (f : Nat → Int) (h : Nat) : Obj := .cells (rowK kd f h).toArray t
theorem rowK_length (kd : IntKind) (f : Nat → Int) (h : Nat) : (rowK kd f h).length = h := by simp [rowK]
theorem rowK_at (kd : IntKind) (f : Nat → Int) (h j : Nat) (hj : j < h) : (rowK kd f h)[j]? = some (.int kd (f j)) := by simp [rowK, hj]
theorem made_rowK (kd : IntKind) (h : Nat) : (madeCells #[.int kd 0] h) = (rowK kd (fun _ => 0) h).toArray := by
  apply Array.ext'
  apply List.ext_getElem?
  intro i
  by_cases hi : i < h
  · simp [madeCells, rowK, hi, Nat.mod_one]
  · rw [List.getElem?_eq_none (by simp [size_madeCells]; omega), List.getElem?_eq_none (by simp [rowK]; omega)]
def upd (f : Nat → Int) (k : Nat) (v : Int) : Nat → Int := fun j => if j = k then v else f j
theorem rowK_set (kd : IntKind) (f : Nat → Int) (h k : Nat) (v : Int) : (rowK kd f h).set k (.int kd v) = rowK kd (upd f k v) h := by
  apply List.ext_getElem?
  intro i
  rw [List.getElem?_set]
  by_cases hi : i < h
  · by_cases e : k = i
    · subst e
      rw [if_pos rfl, if_pos (by rw [rowK_length]; exact hi), rowK_at _ _ _ _ hi]
      simp [upd]
    · rw [if_neg e, rowK_at _ _ _ _ hi, rowK_at _ _ _ _ hi]
      have e' : ¬ i = k := fun x => e x.symm
      simp [upd, e']
  · rw [List.getElem?_eq_none (l := rowK kd (upd f k v) h) (by rw [rowK_length]; omega)]
    by_cases e : k = i
    · rw [if_pos e, if_neg (by rw [rowK_length]; omega)]
    · rw [if_neg e, List.getElem?_eq_none (by rw [rowK_length]; omega)]
theorem row_store {W : World} {g : Nat} {kd : IntKind} {t : TypeId} {f : Nat → Int} {h : Nat} (hg : W.heap[g]? = some (rowObj kd t f h)) (k : Nat) (v : Int) :
    (W.setCell ⟨g, k, none⟩ (.int kd v)).heap[g]? = some (rowObj kd t (upd f k v) h) ∧ ∀ i, i ≠ g → (W.setCell ⟨g, k, none⟩ (.int kd v)).heap[i]? = W.heap[i]? := by
  refine ⟨?_, fun i hi => Below.heap_setCell _ _ _ _ (by simpa using hi)⟩
  unfold rowObj at hg ⊢
  rw [setCell_eq_setRow W g k _ t (0, 0) _ hg, setRow_heap W g _ _ t _ hg]
  congr 2
  apply Array.ext'
  simp [rowK_set]
theorem rowObj_congr {kd : IntKind} {t : TypeId} {f f' : Nat → Int} {h : Nat} (e : ∀ j, j < h → f j = f' j) : rowObj kd t f h = rowObj kd t f' h := by
  unfold rowObj rowK
  congr 2
  exact List.map_congr_left fun j hj => by rw [e j (List.mem_range.1 hj)]
theorem row_cell {W : World} {g : Nat} {kd : IntKind} {t : TypeId} {f : Nat → Int} {h : Nat} (hg : W.heap[g]? = some (rowObj kd t f h)) (j : Nat) (hj : j < h) : W.cell? ⟨g, j, none⟩ = some (.int kd (f j)) := by
  have := rowK_at kd f h j hj
  simp [World.cell?, hg, rowObj, this]
theorem row_free {W : World} {g : Nat} {kd : IntKind} {t : TypeId} {f : Nat → Int} {h : Nat} (hg : W.heap[g]? = some (rowObj kd t f h)) (j : Nat) : W.frozen? ⟨g, j, none⟩ = false := by
  simp [World.frozen?, hg, rowObj]

/-- The first k laid, the rest nought. -/
def mid (f : Nat → Int) (k : Nat) : Nat → Int := fun j => if j < k then f j else 0

/-- THE THREE ROWS AS THE FILLING LOOP KEEPS THEM. -/
structure Rows3 (w : World) (B h : Nat) (fm fa fc : Nat → Int) (w0 : World) : Prop where
  met : w.heap[B]? = some (rowObj .i64 3 fm h)
  atv : w.heap[B + 1]? = some (rowObj .u64 26 fa h)
  atc : w.heap[B + 1 + 1]? = some (rowObj .u64 26 fc h)
  bel : Below B w0 w
theorem Rows3.setM {w w0 : World} {B h : Nat} {fm fa fc : Nat → Int} (R : Rows3 w B h fm fa fc w0) (k : Nat) (v : Int) : Rows3 (w.setCell ⟨B, k, none⟩ (.int .i64 v)) B h (upd fm k v) fa fc w0 :=
  have S := row_store R.met k v
  ⟨S.1, (S.2 _ (by omega)).trans R.atv, (S.2 _ (by omega)).trans R.atc, R.bel.setCell (Nat.le_refl _) _⟩
theorem Rows3.setA {w w0 : World} {B h : Nat} {fm fa fc : Nat → Int} (R : Rows3 w B h fm fa fc w0) (k : Nat) (v : Int) : Rows3 (w.setCell ⟨B + 1, k, none⟩ (.int .u64 v)) B h fm (upd fa k v) fc w0 :=
  have S := row_store R.atv k v
  ⟨(S.2 _ (by omega)).trans R.met, S.1, (S.2 _ (by omega)).trans R.atc, R.bel.setCell (by simp) _⟩
theorem Rows3.setC {w w0 : World} {B h : Nat} {fm fa fc : Nat → Int} (R : Rows3 w B h fm fa fc w0) (k : Nat) (v : Int) : Rows3 (w.setCell ⟨B + 1 + 1, k, none⟩ (.int .u64 v)) B h fm fa (upd fc k v) w0 :=
  have S := row_store R.atc k v
  ⟨(S.2 _ (by omega)).trans R.met, (S.2 _ (by omega)).trans R.atv, S.1, R.bel.setCell (by simp; omega) _⟩
theorem Rows3.turn {w w0 : World} {B h : Nat} {fm fa fc gm ga gc : Nat → Int} (R : Rows3 w B h fm fa fc w0) (hm : ∀ j, j < h → fm j = gm j) (ha : ∀ j, j < h → fa j = ga j) (hc : ∀ j, j < h → fc j = gc j) : Rows3 w B h gm ga gc w0 :=
  ⟨R.met.trans (congrArg some (rowObj_congr hm)), R.atv.trans (congrArg some (rowObj_congr ha)), R.atc.trans (congrArg some (rowObj_congr hc)), R.bel⟩
theorem mid_upd (f : Nat → Int) (k h : Nat) (v : Int) (hv : v = f k) : ∀ j, j < h → upd (mid f k) k v j = mid f (k + 1) j := by
  intro j _
  unfold upd mid
  by_cases e : j = k
  · subst e; simp [hv]
  · rw [if_neg e]
    by_cases hj : j < k
    · rw [if_pos hj, if_pos (by omega)]
    · rw [if_neg hj, if_neg (by omega)]
theorem mid_zero (f : Nat → Int) (k h : Nat) (hv : f k = 0) : ∀ j, j < h → mid f k j = mid f (k + 1) j := by
  intro j _
  unfold mid
  by_cases e : j = k
  · subst e; simp [hv]
  · by_cases hj : j < k
    · rw [if_pos hj, if_pos (by omega)]
    · rw [if_neg hj, if_neg (by omega)]
theorem upd_upd (f : Nat → Int) (k h : Nat) (u v : Int) : ∀ j, j < h → upd (upd f k u) k v j = upd f k v j := by
  intro j _
  unfold upd
  split <;> rfl

theorem mid_start (f : Nat → Int) (h : Nat) : ∀ j, j < h → (fun _ => (0 : Int)) j = mid f 0 j := fun j _ => by simp [mid]

theorem rows3_start (w : World) (h : Nat) (M A : Nat → Int) : Rows3 (((w.alloc (.cells (madeCells #[.int .i64 0] h) 3)).alloc (.cells (madeCells #[.int .u64 0] h) 26)).alloc (.cells (madeCells #[.int .u64 0] h) 26)) w.heap.size h (mid M 0) (mid A 0) (mid A 0) w := by
  refine ⟨?_, ?_, ?_, (((Below.refl _ _).alloc (Nat.le_refl _) _).alloc (by simp) _).alloc (by simp; omega) _⟩
  · show (((w.heap.push _).push _).push _)[w.heap.size]? = _
    simp only [Array.getElem?_push, Array.size_push]
    rw [if_neg (by omega), if_neg (by omega), if_pos trivial, made_rowK]
    exact congrArg some (rowObj_congr (mid_start M h))
  · show (((w.heap.push _).push _).push _)[w.heap.size + 1]? = _
    simp only [Array.getElem?_push, Array.size_push]
    rw [if_neg (by omega), if_pos trivial, made_rowK]
    exact congrArg some (rowObj_congr (mid_start A h))
  · show (((w.heap.push _).push _).push _)[w.heap.size + 1 + 1]? = _
    simp only [Array.getElem?_push, Array.size_push]
    rw [if_pos trivial, made_rowK]
    exact congrArg some (rowObj_congr (mid_start A h))

end Go.Proofs.Ybulkeahk
