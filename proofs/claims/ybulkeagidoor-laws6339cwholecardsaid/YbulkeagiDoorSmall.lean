/-
  THE PLAIN SIDE OF 'LawS6339CWhole': the keywords, and the small callees' walks.
-/
import Derived.Test.YbulkeagiDoorProg
import Derived.WalkKit
import Derived.WalkSpells
import Derived.WalkLawsBesides
import Derived.Deep.QuietTactic
import Derived.BigQuiet
import Derived.BigRegion
import Derived.RegionTactic
namespace Go.Proofs.YbulkeagiDoor
open Go.RowKit

def kwList : List ByteArray := [⟨#[67, 79, 78, 83, 84, 65, 78, 84]⟩, ⟨#[67, 79, 78, 83, 84, 65, 78, 84, 83]⟩, ⟨#[83, 80, 69, 67, 73, 70, 73, 67, 65, 84, 73, 79, 78]⟩, ⟨#[73, 78, 73, 84]⟩, ⟨#[78, 69, 88, 84]⟩, ⟨#[73, 78, 86, 65, 82, 73, 65, 78, 84]⟩, ⟨#[73, 78, 86, 65, 82, 73, 65, 78, 84, 83]⟩, ⟨#[67, 72, 69, 67, 75, 95, 68, 69, 65, 68, 76, 79, 67, 75]⟩, ⟨#[80, 82, 79, 80, 69, 82, 84, 89]⟩, ⟨#[80, 82, 79, 80, 69, 82, 84, 73, 69, 83]⟩, ⟨#[67, 79, 78, 83, 84, 82, 65, 73, 78, 84]⟩, ⟨#[67, 79, 78, 83, 84, 82, 65, 73, 78, 84, 83]⟩, ⟨#[65, 67, 84, 73, 79, 78, 95, 67, 79, 78, 83, 84, 82, 65, 73, 78, 84]⟩, ⟨#[65, 67, 84, 73, 79, 78, 95, 67, 79, 78, 83, 84, 82, 65, 73, 78, 84, 83]⟩, ⟨#[83, 89, 77, 77, 69, 84, 82, 89]⟩, ⟨#[86, 73, 69, 87]⟩, ⟨#[65, 76, 73, 65, 83]⟩, ⟨#[80, 79, 83, 84, 67, 79, 78, 68, 73, 84, 73, 79, 78]⟩]
def kwAt (j : Nat) : ByteArray := kwList.getD j ⟨#[]⟩
def isKw (s : ByteArray) : Bool := kwList.any fun k => k.toList == s.toList

theorem kwAt_eq (j : Nat) (h : j < 18) : kwAt j = kwList[j]'(by show j < 18; exact h) := by
  unfold kwAt
  simp [List.getD, List.getElem?_eq_getElem (show j < kwList.length by exact h)]
theorem isKw_hit (s : ByteArray) (k : Nat) (hk : k < 18) (h : ((kwAt k).toList == s.toList) = true) : isKw s = true := by
  unfold isKw
  rw [List.any_eq_true]
  exact ⟨kwAt k, by rw [kwAt_eq k hk]; exact List.getElem_mem _, h⟩
theorem isKw_miss (s : ByteArray) (h : ∀ j, j < 18 → ((kwAt j).toList == s.toList) = false) : isKw s = false := by
  unfold isKw
  rw [List.any_eq_false]
  intro x hx
  obtain ⟨j, hj, rfl⟩ := List.getElem_of_mem hx
  have := h j hj
  rw [kwAt_eq j hj] at this
  simp [this]

def kwVals : Array Value := #[.string ⟨#[67, 79, 78, 83, 84, 65, 78, 84]⟩, .string ⟨#[67, 79, 78, 83, 84, 65, 78, 84, 83]⟩, .string ⟨#[83, 80, 69, 67, 73, 70, 73, 67, 65, 84, 73, 79, 78]⟩, .string ⟨#[73, 78, 73, 84]⟩, .string ⟨#[78, 69, 88, 84]⟩, .string ⟨#[73, 78, 86, 65, 82, 73, 65, 78, 84]⟩, .string ⟨#[73, 78, 86, 65, 82, 73, 65, 78, 84, 83]⟩, .string ⟨#[67, 72, 69, 67, 75, 95, 68, 69, 65, 68, 76, 79, 67, 75]⟩, .string ⟨#[80, 82, 79, 80, 69, 82, 84, 89]⟩, .string ⟨#[80, 82, 79, 80, 69, 82, 84, 73, 69, 83]⟩, .string ⟨#[67, 79, 78, 83, 84, 82, 65, 73, 78, 84]⟩, .string ⟨#[67, 79, 78, 83, 84, 82, 65, 73, 78, 84, 83]⟩, .string ⟨#[65, 67, 84, 73, 79, 78, 95, 67, 79, 78, 83, 84, 82, 65, 73, 78, 84]⟩, .string ⟨#[65, 67, 84, 73, 79, 78, 95, 67, 79, 78, 83, 84, 82, 65, 73, 78, 84, 83]⟩, .string ⟨#[83, 89, 77, 77, 69, 84, 82, 89]⟩, .string ⟨#[86, 73, 69, 87]⟩, .string ⟨#[65, 76, 73, 65, 83]⟩, .string ⟨#[80, 79, 83, 84, 67, 79, 78, 68, 73, 84, 73, 79, 78]⟩]
theorem kwVals_at (j : Nat) (h : j < 18) : kwVals[j]? = some (.string (kwAt j)) := by
  have e : kwVals = (kwList.map Value.string).toArray := rfl
  have hj : j < kwList.length := h
  rw [e, kwAt_eq j h]
  simp [hj]

theorem kw_any (w : World) :
    Calls Ybad.prog 4 #[] w fun e w' => e = .returned (.slice (some ⟨w.heap.size, 0, none⟩) 18 18) ∧ w' = w.alloc (.cells kwVals 9) := by
  go_enter Ybad.func4, Ybad.ntmps4
  go_wp2
  go_ret
  exact ⟨rfl, rfl⟩

theorem iskw_any (b : Nat) (s : ByteArray) (w : World) (hc : ∀ j, j < 18 → w.cell? ⟨b, j, none⟩ = some (.string (kwAt j))) :
    Calls Ybad.prog 6 #[.slice (some ⟨b, 0, none⟩) 18 18, .string s] w fun e w' => e = .returned (.bool (isKw s)) ∧ w' = w := by
  go_enter Ybad.func6, Ybad.ntmps6
  go_wp2
  go_loop [5] (fun i => ∃ k : Nat, k ≤ 18 ∧ i = .int .i64 k ∧ Hid (∀ j, j < k → ((kwAt j).toList == s.toList) = false)) (fun i => 18 - (intOf i).toNat)
  case atStart => exact ⟨0, Nat.zero_le _, rfl, fun j hj => absurd hj (Nat.not_lt_zero _)⟩
  case round =>
    obtain ⟨k, hk, rfl, hn⟩ := hrel
    by_cases hlt : k < 18
    · have h1 := hc k hlt
      go_wp2
      · have ht : ((kwAt k).toList == s.toList) = true := by assumption
        go_ret
        exact ⟨by rw [isKw_hit s k hlt ht]; rfl, rfl⟩
      · have ht : ((kwAt k).toList == s.toList) = false := by assumption
        go_round
        case rel => exact ⟨k + 1, by omega, by go_num, fun j hj => by
          by_cases e : j = k
          · subst e; exact ht
          · exact hn.out j (by omega)⟩
        case measure => simp [intOf]; omega
    · go_wp2
      go_ret
      exact ⟨by rw [isKw_miss s fun j hj => hn.out j (by omega)]; rfl, rfl⟩

/-- 'p.toks[p.i]': the token is copied out; nothing old has turned. -/
theorem peek_any (pb g n : Nat) (i : Int) (k l c : Int) (s : ByteArray) (w : World) (h0 : 0 ≤ i) (hn : i < n) (hpb : pb < w.heap.size) (hgb : g < w.heap.size)
    (hp1 : w.cell? ⟨pb, 1, none⟩ = some (.slice (some ⟨g, 0, none⟩) n n)) (hp2 : w.cell? ⟨pb, 2, none⟩ = some (.int .i64 i))
    (c0 : w.cell? ⟨g, i.toNat * 4, none⟩ = some (.int .u8 k)) (c1 : w.cell? ⟨g, i.toNat * 4 + 1, none⟩ = some (.string s)) (c2 : w.cell? ⟨g, i.toNat * 4 + 2, none⟩ = some (.int .i64 l)) (c3 : w.cell? ⟨g, i.toNat * 4 + 3, none⟩ = some (.int .i64 c)) :
    Calls Ybad.prog 7 #[.pointer (some ⟨pb, 0, none⟩)] w fun e w' => e = .returned (.agg #[.int .u8 k, .string s, .int .i64 l, .int .i64 c]) ∧ Below w.heap.size w w' := by
  go_enter Ybad.func7, Ybad.ntmps7
  go_wp2
  go_region
  go_wp2
  exact bodyPost_ret (v := .agg #[.int .u8 k, .string s, .int .i64 l, .int .i64 c]) (by simp [results, Ybad.results7, go_sem]) rfl ⟨rfl, ((Below.refl _ _).alloc (Nat.le_refl _) _).drew⟩

/-- 'atName', what the map holds for this text handed in as a fact over every later world. -/
theorem atName_any (pb g n bm : Nat) (i : Int) (k l c r : Int) (s : ByteArray) (kw : Bool) (w : World) (h0 : 0 ≤ i) (hn : i < n) (hpb : pb < w.heap.size) (hgb : g < w.heap.size) (_hz : 0 < w.heap.size)
    (hp1 : w.cell? ⟨pb, 1, none⟩ = some (.slice (some ⟨g, 0, none⟩) n n)) (hp2 : w.cell? ⟨pb, 2, none⟩ = some (.int .i64 i))
    (c0 : w.cell? ⟨g, i.toNat * 4, none⟩ = some (.int .u8 k)) (c1 : w.cell? ⟨g, i.toNat * 4 + 1, none⟩ = some (.string s)) (c2 : w.cell? ⟨g, i.toNat * 4 + 2, none⟩ = some (.int .i64 l)) (c3 : w.cell? ⟨g, i.toNat * 4 + 3, none⟩ = some (.int .i64 c))
    (hm : w.cell? ⟨0, 0, none⟩ = some (.map (some bm)))
    (hlook : ∀ w', Below w.heap.size w w' → (Instr.lookup 43 (.map (some bm)) (.string s) true).run Ybad.prog w' = .ok (.tuple #[.int .u8 r, .bool kw]) w') :
    Calls Ybad.prog 5 #[.pointer (some ⟨pb, 0, none⟩)] w fun e w' => e = .returned (.bool ((k == 1) && !kw)) ∧ Below w.heap.size w w' := by
  go_enter Ybad.func5, Ybad.ntmps5
  go_wp2_with fail
  refine (peek_any pb g n i k l c s _ h0 hn hpb hgb hp1 hp2 c0 c1 c2 c3).mono ?_
  rintro e w1 ⟨rfl, hb⟩
  have hm1 : w1.cell? ⟨0, 0, none⟩ = some (.map (some bm)) := cell_later hb hm
  have hz1 : 0 < w1.heap.size := by have := hb.size; omega
  have hl1 := fun o => hlook (w1.alloc o) (hb.alloc hb.size o)
  cases hk : (k == 1)
  · go_wp2
    go_ret
    exact ⟨by rw [hk]; rfl, hb.alloc hb.size _⟩
  · obtain rfl : k = 1 := by simpa using hk
    clear hk
    go_wp2
    go_ret
    exact ⟨rfl, hb.alloc hb.size _⟩

end Go.Proofs.YbulkeagiDoor
