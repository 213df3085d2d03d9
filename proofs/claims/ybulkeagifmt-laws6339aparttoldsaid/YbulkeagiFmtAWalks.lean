/-
  THE WALKS OF 'LawS6339APart': verdict, zzs6339aexpect, zzs6339aeqstrs, each by its contract.
-/
import Derived.Test.YbulkeagiFmtProg
import Derived.WalkKit
import Derived.WalkSpells
namespace Go.Proofs.YbulkeagiFmt
open Go.RowKit

/-- What 'verdict' answers at a verdict that is not Invariant. -/
def vtext (v : Int) : ByteArray :=
  if v = 2 then ⟨#[100, 101, 97, 100, 108, 111, 99, 107]⟩
  else if v = 3 then ⟨#[97, 115, 115, 101, 114, 116, 105, 111, 110, 32, 102, 97, 105, 108, 101, 100]⟩
  else if v = 4 then ⟨#[101, 118, 97, 108, 117, 97, 116, 105, 111, 110, 32, 101, 114, 114, 111, 114]⟩
  else ⟨#[110, 111, 32, 101, 114, 114, 111, 114]⟩

theorem vtext2 : vtext 2 = ⟨#[100, 101, 97, 100, 108, 111, 99, 107]⟩ := rfl
theorem vtext3 : vtext 3 = ⟨#[97, 115, 115, 101, 114, 116, 105, 111, 110, 32, 102, 97, 105, 108, 101, 100]⟩ := rfl
theorem vtext4 : vtext 4 = ⟨#[101, 118, 97, 108, 117, 97, 116, 105, 111, 110, 32, 101, 114, 114, 111, 114]⟩ := rfl
theorem vtextE (v : Int) (h2 : v ≠ 2) (h3 : v ≠ 3) (h4 : v ≠ 4) : vtext v = ⟨#[110, 111, 32, 101, 114, 114, 111, 114]⟩ := by
  unfold vtext; rw [if_neg h2, if_neg h3, if_neg h4]

set_option maxHeartbeats 400000 in
theorem verdict_any (b : Nat) (v : Int) (w : World) (h1 : (v == 1) = false) (hc : w.cell? ⟨b, 2, none⟩ = some (.int .u8 v)) :
    Calls Ybaf.prog 6 #[.pointer (some ⟨b, 0, none⟩)] w fun e w' => e = .returned (.string (vtext v)) ∧ w' = w := by
  by_cases h2 : v = 2
  · subst h2
    go_enter Ybaf.func6, Ybaf.ntmps6
    go_wp2
    go_ret
    exact ⟨rfl, rfl⟩
  by_cases h3 : v = 3
  · subst h3
    go_enter Ybaf.func6, Ybaf.ntmps6
    go_wp2
    go_ret
    exact ⟨rfl, rfl⟩
  by_cases h4 : v = 4
  · subst h4
    go_enter Ybaf.func6, Ybaf.ntmps6
    go_wp2
    go_ret
    exact ⟨rfl, rfl⟩
  have e2 : (v == 2) = false := by simp [h2]
  have e3 : (v == 3) = false := by simp [h3]
  have e4 : (v == 4) = false := by simp [h4]
  rw [vtextE v h2 h3 h4]
  clear h2 h3 h4
  go_enter Ybaf.func6, Ybaf.ntmps6
  go_wp2
  go_ret
  exact ⟨rfl, rfl⟩

set_option maxHeartbeats 400000 in
theorem expect_any (v : Int) (w : World) (h0 : 0 ≤ v) (h255 : v ≤ 255) (h1 : (v == 1) = false) :
    Calls Ybaf.prog 7 #[.int .u8 v] w fun e w' => e = .returned (.string (vtext v)) ∧ Below w.heap.size w w' := by
  by_cases h5 : v < 5
  · obtain rfl | rfl | rfl | rfl : v = 0 ∨ v = 2 ∨ v = 3 ∨ v = 4 := by simp at h1; omega
    all_goals
      go_enter Ybaf.func7, Ybaf.ntmps7
      go_wp2
      go_ret
      exact ⟨rfl, (Below.refl _ _).alloc (Nat.le_refl _) _⟩
  rw [vtextE v (by omega) (by omega) (by omega)]
  go_enter Ybaf.func7, Ybaf.ntmps7
  go_wp2
  go_ret
  exact ⟨rfl, (Below.refl _ _).alloc (Nat.le_refl _) _⟩

end Go.Proofs.YbulkeagiFmt
