/-
  THE SMALL CALLEES OF 'LawS6341AWhole': the log's pages, runs and clocks; each by its contract.
-/
import Derived.Test.YbulkeahkProg
import Derived.WalkKit
import Derived.WalkSpells
import Derived.WalkLawsBesides
import Derived.Deep.QuietTactic
import Derived.BigQuiet
import Derived.BigRegion
import Derived.RegionTactic
import Derived.Laws.Bits64b
namespace Go.Proofs.Ybulkeahk
open Go.RowKit

/-- WHERE THE LOG LIES: the box 'lb', its pages and blocks, as far as the road reads them. -/
structure LogAt (w : World) (lb mb h pb evb bb blk sb st n0 n1 : Nat) : Prop where
  met : w.cell? ⟨lb, 3, none⟩ = some (.slice (some ⟨mb, 0, none⟩) h h)
  pages : w.cell? ⟨lb, 4, none⟩ = some (.slice (some ⟨pb, 0, none⟩) 1 1)
  blocks : w.cell? ⟨lb, 8, none⟩ = some (.slice (some ⟨bb, 0, none⟩) 1 1)
  starts : w.cell? ⟨lb, 9, none⟩ = some (.slice (some ⟨sb, 0, none⟩) 1 1)
  nst : w.cell? ⟨lb, 10, none⟩ = some (.int .i64 2)
  page : w.cell? ⟨pb, 0, none⟩ = some (.slice (some ⟨evb, 0, none⟩) 2 2)
  block : w.cell? ⟨bb, 0, none⟩ = some (.slice (some ⟨blk, 0, none⟩) (n0 + n1) (n0 + n1))
  start : w.cell? ⟨sb, 0, none⟩ = some (.slice (some ⟨st, 0, none⟩) 2 2)
  st0 : w.cell? ⟨st, 0, none⟩ = some (.int .u64 0)
  st1 : w.cell? ⟨st, 1, none⟩ = some (.int .u64 n0)

theorem LogAt.later {w w' : World} {lb mb h pb evb bb blk sb st n0 n1 : Nat} (L : LogAt w lb mb h pb evb bb blk sb st n0 n1) (hb : Below w.heap.size w w') : LogAt w' lb mb h pb evb bb blk sb st n0 n1 :=
  ⟨cell_later hb L.met, cell_later hb L.pages, cell_later hb L.blocks, cell_later hb L.starts, cell_later hb L.nst, cell_later hb L.page, cell_later hb L.block, cell_later hb L.start, cell_later hb L.st0, cell_later hb L.st1⟩

theorem evat_any (lb pb evb : Nat) (e : Int) (w : World) (he : e = 0 ∨ e = 1) (h1 : w.cell? ⟨lb, 4, none⟩ = some (.slice (some ⟨pb, 0, none⟩) 1 1)) (h2 : w.cell? ⟨pb, 0, none⟩ = some (.slice (some ⟨evb, 0, none⟩) 2 2)) :
    Calls Yba.prog 7 #[.pointer (some ⟨lb, 4, none⟩), .int .i64 e] w fun x w' => x = .returned (.pointer (some ⟨evb, e.toNat * 5, none⟩)) ∧ w' = w := by
  rcases he with rfl | rfl
  · go_enter Yba.func7, Yba.ntmps7
    go_wp2
    go_ret
    exact ⟨rfl, rfl⟩
  · go_enter Yba.func7, Yba.ntmps7
    go_wp2
    go_ret
    exact ⟨rfl, rfl⟩

theorem host_any (b o : Nat) (x : Int) (w : World) (h0 : 0 ≤ x) (h1 : x ≤ 4294967295) (hc : w.cell? ⟨b, o, none⟩ = some (.int .u32 x)) :
    Calls Yba.prog 8 #[.pointer (some ⟨b, o, none⟩)] w fun e w' => e = .returned (.int .i64 x) ∧ w' = w := by
  go_enter Yba.func8, Yba.ntmps8
  go_wp2
  go_ret
  exact ⟨rfl, rfl⟩

theorem len_any (lb : Nat) (w : World) (hc : w.cell? ⟨lb, 10, none⟩ = some (.int .i64 2)) :
    Calls Yba.prog 12 #[.pointer (some ⟨lb, 9, none⟩)] w fun e w' => e = .returned (.int .i64 2) ∧ w' = w := by
  go_enter Yba.func12, Yba.ntmps12
  go_wp2
  go_ret
  exact ⟨rfl, rfl⟩

theorem u64at_any (lb sb st : Nat) (i : Int) (w : World) (hi : i = 0 ∨ i = 1) (h1 : w.cell? ⟨lb, 9, none⟩ = some (.slice (some ⟨sb, 0, none⟩) 1 1)) (h2 : w.cell? ⟨sb, 0, none⟩ = some (.slice (some ⟨st, 0, none⟩) 2 2)) :
    Calls Yba.prog 13 #[.pointer (some ⟨lb, 9, none⟩), .int .i64 i] w fun x w' => x = .returned (.pointer (some ⟨st, i.toNat, none⟩)) ∧ w' = w := by
  rcases hi with rfl | rfl
  · go_enter Yba.func13, Yba.ntmps13
    go_wp2
    go_ret
    exact ⟨rfl, rfl⟩
  · go_enter Yba.func13, Yba.ntmps13
    go_wp2
    go_ret
    exact ⟨rfl, rfl⟩

theorem ret_slice {x : Option Addr} {a b : Nat} (h : a = b) : Ending.returned (.slice x a a) = .returned (.slice x b b) := by rw [h]

theorem mask32 (n : Nat) (h : n ≤ 1048576) : bits .and .u64 (n : Int) 4294967295 = (n : Int) := by
  have := bits_and_u64_nat n 4294967295 (by omega) (by omega)
  rw [show ((4294967295 : Nat) : Int) = 4294967295 from rfl] at this
  rw [this]
  congr 1
  have e := Nat.and_two_pow_sub_one_eq_mod n 32
  simp only [Nat.reducePow, Nat.reduceSub] at e
  rw [e]
  omega

set_option maxHeartbeats 400000 in
theorem start_any (lb sb st s : Nat) (i : Int) (w : World) (hi : i = 0 ∨ i = 1) (hs : s ≤ 1048576) (h1 : w.cell? ⟨lb, 9, none⟩ = some (.slice (some ⟨sb, 0, none⟩) 1 1)) (h2 : w.cell? ⟨sb, 0, none⟩ = some (.slice (some ⟨st, 0, none⟩) 2 2)) (h3 : w.cell? ⟨st, i.toNat, none⟩ = some (.int .u64 s)) :
    Calls Yba.prog 11 #[.pointer (some ⟨lb, 8, none⟩), .int .i64 i] w fun x w' => x = .returned (.tuple #[.int .i64 0, .int .i64 s]) ∧ w' = w := by
  have hm := mask32 s hs
  have hd : (s : Int) / 4294967296 = 0 := by omega
  go_enter Yba.func11, Yba.ntmps11
  go_wp2_with fail
  refine (u64at_any lb sb st i _ hi h1 h2).mono ?_
  rintro e w1 ⟨rfl, rfl⟩
  go_wp2
  go_ret2
  exact ⟨rfl, rfl⟩

set_option maxHeartbeats 400000 in
/-- The run 0: the block's first n0 entries. -/
theorem run0_any (lb mb h pb evb bb blk sb st n0 n1 : Nat) (w : World) (L : LogAt w lb mb h pb evb bb blk sb st n0 n1) (hn : n0 + n1 ≤ 1048576) :
    Calls Yba.prog 10 #[.pointer (some ⟨lb, 8, none⟩), .int .i64 0] w fun x w' => (∃ ad, x = .returned (.slice (some ad) n0 n0) ∧ (0 < n0 → ad = ⟨blk, 0, none⟩)) ∧ w' = w := by
  obtain ⟨_, _, hblocks, hstarts, hnst, _, hblock, hstart, hst0, hst1⟩ := L
  go_enter Yba.func10, Yba.ntmps10
  go_wp2_with fail
  refine (start_any lb sb st 0 0 _ (.inl rfl) (by omega) hstarts hstart hst0).mono ?_
  rintro e w1 ⟨rfl, rfl⟩
  go_wp2_with fail
  refine (len_any lb _ hnst).mono ?_
  rintro e w1 ⟨rfl, rfl⟩
  go_wp2_with fail
  refine (start_any lb sb st n0 1 _ (.inr rfl) (by omega) hstarts hstart hst1).mono ?_
  rintro e w1 ⟨rfl, rfl⟩
  go_wp2
  go_ret
  exact ⟨⟨_, rfl, fun _ => rfl⟩, rfl⟩

set_option maxHeartbeats 400000 in
/-- The run 1: the block's last n1 entries. -/
theorem run1_any (lb mb h pb evb bb blk sb st n0 n1 : Nat) (w : World) (L : LogAt w lb mb h pb evb bb blk sb st n0 n1) (hn : n0 + n1 ≤ 1048576) :
    Calls Yba.prog 10 #[.pointer (some ⟨lb, 8, none⟩), .int .i64 1] w fun x w' => (∃ ad, x = .returned (.slice (some ad) n1 n1) ∧ (0 < n1 → ad = ⟨blk, n0 * 2, none⟩)) ∧ w' = w := by
  obtain ⟨_, _, hblocks, hstarts, hnst, _, hblock, hstart, hst0, hst1⟩ := L
  by_cases hz : n1 = 0
  · subst hz
    go_enter Yba.func10, Yba.ntmps10
    go_wp2_with fail
    refine (start_any lb sb st n0 1 _ (.inr rfl) (by omega) hstarts hstart hst1).mono ?_
    rintro e w1 ⟨rfl, rfl⟩
    go_wp2_with fail
    refine (len_any lb _ hnst).mono ?_
    rintro e w1 ⟨rfl, rfl⟩
    go_wp2
    go_ret
    exact ⟨⟨_, rfl, fun h => absurd h (by omega)⟩, rfl⟩
  · have hz' : ¬ n0 + n1 = n0 := by omega
    go_enter Yba.func10, Yba.ntmps10
    go_wp2_with fail
    refine (start_any lb sb st n0 1 _ (.inr rfl) (by omega) hstarts hstart hst1).mono ?_
    rintro e w1 ⟨rfl, rfl⟩
    go_wp2_with fail
    refine (len_any lb _ hnst).mono ?_
    rintro e w1 ⟨rfl, rfl⟩
    go_wp2
    go_ret
    exact ⟨⟨⟨blk, n0 * 2, none⟩, ret_slice (a := n0 + n1 - n0) (by omega), fun _ => rfl⟩, rfl⟩

/-- The clock of event f. -/
theorem clock_any (lb mb h pb evb bb blk sb st n0 n1 lo len : Nat) (f : Int) (w : World) (L : LogAt w lb mb h pb evb bb blk sb st n0 n1) (hn : n0 + n1 ≤ 1048576) (hf : (f = 0 ∧ lo = 0 ∧ len = n0) ∨ (f = 1 ∧ lo = n0 * 2 ∧ len = n1)) :
    Calls Yba.prog 9 #[.pointer (some ⟨lb, 0, none⟩), .int .i64 f] w fun x w' => (∃ ad, x = .returned (.slice (some ad) len len) ∧ (0 < len → ad = ⟨blk, lo, none⟩)) ∧ w' = w := by
  rcases hf with ⟨rfl, rfl, rfl⟩ | ⟨rfl, rfl, rfl⟩
  · go_enter Yba.func9, Yba.ntmps9
    go_wp2_with fail
    refine (run0_any lb mb h pb evb bb blk sb st len n1 w L hn).mono ?_
    rintro e w1 ⟨⟨ad, rfl, had⟩, rfl⟩
    go_wp2
    go_ret
    exact ⟨⟨_, rfl, had⟩, rfl⟩
  · go_enter Yba.func9, Yba.ntmps9
    go_wp2_with fail
    refine (run1_any lb mb h pb evb bb blk sb st n0 len w L hn).mono ?_
    rintro e w1 ⟨⟨ad, rfl, had⟩, rfl⟩
    go_wp2
    go_ret
    exact ⟨⟨_, rfl, had⟩, rfl⟩

end Go.Proofs.Ybulkeahk
