/-
  THE WALK OF 'LawS6339APart' ITSELF, out of its callees' contracts.
-/
import Derived.Test.YbulkeagiFmtAWalks
import Derived.Test.YbulkeagiFmtAEq
import Derived.Laws.CopyOwn
import Derived.Deep.OwnRows
namespace Go.Proofs.YbulkeagiFmt
open Go.RowKit Go.Deep

theorem Ybaf.info9 : (Ybaf.prog.info? 9).map (fun i => (i.zero, i.size, i.bytes)) = some (some (.string ⟨#[]⟩), 1, 16) := by kernel_rfl
theorem Ybaf.size9 : (Ybaf.prog.info? 9).map (·.size) = some 1 := by kernel_rfl

theorem bcell {W w1 : World} (hb : Below W.heap.size W w1) : (∀ b o, b < W.heap.size → w1.cell? ⟨b, o, none⟩ = W.cell? ⟨b, o, none⟩) ∧ (∀ b o, b < W.heap.size → w1.frozen? ⟨b, o, none⟩ = W.frozen? ⟨b, o, none⟩) :=
  ⟨fun b o h => hb.cell (p := ⟨b, o, none⟩) h, fun b o h => hb.frozen (p := ⟨b, o, none⟩) h⟩

theorem heap_made (w : World) (X : Array Value) (t : TypeId) : (w.alloc (.cells X t)).heap[w.heap.size]? = some (.cells X.toList.toArray t (0, 0)) := by
  show (w.heap.push _)[w.heap.size]? = _
  simp

theorem cell_alloc_old {w : World} {a : Addr} (o : Obj) (h : a.block < w.heap.size) (j : Nat) : (w.alloc o).cell? (a.add j) = w.cell? (a.add j) :=
  World.cell?_alloc_old w o _ (by unfold Addr.add; split <;> simp <;> omega)

theorem row_cell {w : World} {g : Nat} {xs : List Value} {t : TypeId} (h : w.heap[g]? = some (.cells xs.toArray t (0, 0))) {j : Nat} {v : Value} (hv : xs[j]? = some v) : w.cell? ⟨g, j, none⟩ = some v := by
  simp [World.cell?, h, hv]

/-- Too many names, or the verdict Invariant: true at once. -/
theorem law_early (v d1 d2 : Int) (inv det : ByteArray) (a : Option Addr) (n c : Nat) (w : World) (h : 1048576 < n ∨ v = 1) (hn : n ≤ 9223372036854775807) :
    Calls Ybaf.prog 3 #[.int .u8 v, .int .i64 d1, .int .i64 d2, .string inv, .string det, .slice a n c] w fun e w' => e = .returned (.bool true) ∧ w' = w := by
  by_cases h1 : 1048576 < n
  · go_enter Ybaf.func3, Ybaf.ntmps3
    go_wp2
    go_ret
    exact ⟨rfl, rfl⟩
  · obtain rfl : v = 1 := by omega
    go_enter Ybaf.func3, Ybaf.ntmps3
    go_wp2
    go_ret
    exact ⟨rfl, rfl⟩

set_option maxHeartbeats 1000000 in
/-- No names at all (nil). -/
theorem law_nil (v d1 d2 : Int) (inv det : ByteArray) (w : World) (h0 : 0 ≤ v) (h255 : v ≤ 255) (h1 : (v == 1) = false) :
    Calls Ybaf.prog 3 #[.int .u8 v, .int .i64 d1, .int .i64 d2, .string inv, .string det, .slice none 0 0] w fun e w' => e = .returned (.bool true) ∧ Below w.heap.size w w' := by
  go_enter Ybaf.func3, Ybaf.ntmps3
  go_wp2_with fail
  refine (verdict_any w.heap.size v _ h1 (by simp)).mono ?_
  rintro e w1 ⟨rfl, rfl⟩
  go_wp2_with fail
  refine (expect_any v _ h0 h255 h1).mono ?_
  rintro e w1 ⟨rfl, hb⟩
  obtain ⟨hc, -⟩ := bcell hb
  go_wp2_with fail
  refine (eqstrs_empty none none 0 0 _ rfl).mono ?_
  rintro e w2 ⟨rfl, rfl⟩
  go_wp2
  go_ret
  exact ⟨rfl, ((Below.refl _ _).alloc (Nat.le_refl _) _).trans (hb.mono (by simp))⟩

set_option maxHeartbeats 1000000 in
/-- A slice that is not nil (it may be empty). -/
theorem law_some (v d1 d2 : Int) (inv det : ByteArray) (a : Addr) (n c : Nat) (ss : List ByteArray) (w : World) (h0 : 0 ≤ v) (h255 : v ≤ 255) (h1 : (v == 1) = false) (hn : n ≤ 1048576) (hss : ss.length = n)
    (hcell : ∀ j, j < n → w.cell? (a.add j) = some (.string (ss.getD j ByteArray.empty))) (hblk : 0 < n → a.block < w.heap.size) :
    Calls Ybaf.prog 3 #[.int .u8 v, .int .i64 d1, .int .i64 d2, .string inv, .string det, .slice (some a) n c] w fun e w' => e = .returned (.bool true) ∧ Below w.heap.size w w' := by
  have hmk := run_make_row' (P := Ybaf.prog) 22 9 (.string ⟨#[]⟩) 16 Ybaf.underlying22 Ybaf.info9 rfl .i64 .i64 n (by omega) (by omega)
  obtain ⟨cs, HC⟩ : ∃ cs, Hid (cs = ss.map Value.string) := ⟨_, rfl⟩
  have hcl : cs.length = n := by rw [HC.out]; simpa using hss
  go_enter Ybaf.func3, Ybaf.ntmps3
  go_wp2_with (refine wpList_copy_splice rfl (.tmp 26) (.tmp 27) 22 22 rfl 9 Ybaf.underlying22 Ybaf.size9 _ _ _ _ _ _ rfl rfl w.heap.size 0 (madeCells #[.string ⟨#[]⟩] n).toList 9 ?hg cs ?hn ?hpos ?hfit ?h1 w.heap.size w ?hb (Nat.le_refl _) ?_)
  case hg => exact heap_made _ _ _
  case hn => simp [hcl]
  case hpos =>
    intro hp
    intro j v hj
    rw [HC.out, List.getElem?_map] at hj
    obtain ⟨z, hz1, rfl⟩ := Option.map_eq_some_iff.1 hj
    have hjl : j < n := by have := (List.getElem?_eq_some_iff.1 hz1).1; omega
    have := hcell j hjl
    rw [cell_alloc_old _ (hblk (by omega)) j, this]
    simp [List.getD, hz1]
  case hfit => simp [hcl, size_madeCells]
  case h1 =>
    intro v hv
    rw [HC.out] at hv
    obtain ⟨z, _, rfl⟩ := List.mem_map.1 hv
    rfl
  case hb => exact (Below.refl _ _).alloc (Nat.le_refl _) _
  intro w2 HG hB
  have hw2 : w.heap.size < w2.heap.size := by
    have := HG.out
    have := (Array.getElem?_eq_some_iff.1 this).1
    exact this
  go_wp2_with fail
  refine (verdict_any w2.heap.size v _ h1 (by simp)).mono ?_
  rintro e w1 ⟨rfl, rfl⟩
  go_wp2_with fail
  refine (expect_any v _ h0 h255 h1).mono ?_
  rintro e w3 ⟨rfl, hb⟩
  obtain ⟨hc, -⟩ := bcell hb
  go_wp2_with fail
  have hcs : ∀ j, j < n → cs[j]? = some (.string (ss.getD j ByteArray.empty)) := by
    intro j hj
    rw [HC.out, List.getElem?_map]
    simp [List.getD, List.getElem?_eq_getElem (show j < ss.length by omega)]
  have ha3 : ∀ j, j < n → w3.cell? ⟨w.heap.size, j, none⟩ = some (.string (ss.getD j ByteArray.empty)) := by
    intro j hj
    rw [hc _ _ (by simp; omega), World.cell?_alloc_past _ _ _ hw2]
    exact row_cell HG.out (by simp only [splice, List.take_zero, List.nil_append]; rw [List.getElem?_append_left (by omega)]; exact hcs j hj)
  have hb3 : ∀ j, j < n → w3.cell? (a.add j) = some (.string (ss.getD j ByteArray.empty)) := by
    intro j hj
    refine cell_later hb ?_
    rw [cell_alloc_old _ (by have := hblk (by omega); omega) j]
    exact cell_later hB (hcell j hj)
  refine (eqstrs_any w.heap.size n c a ss _ hn ha3 hb3).mono ?_
  rintro e w4 ⟨rfl, q, rfl⟩
  go_wp2
  go_ret
  exact ⟨rfl, below_drewN ((hB.alloc (by omega) _).trans (hb.mono (by simp; omega))) q⟩

end Go.Proofs.YbulkeagiFmt
