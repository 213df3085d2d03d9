/-
  THE WALK OF 'zzs6339aeqstrs'.
-/
import Derived.Test.YbulkeagiFmtProg
import Derived.WalkKit
import Derived.WalkSpells
import Derived.WalkLawsBesides
import Derived.Lib.SliceRun
import Derived.Deep.QuietTactic
import Derived.BigQuiet
namespace Go.Proofs.YbulkeagiFmt
open Go.RowKit

/-- Two slices without elements, both nil or neither. -/
theorem eqstrs_empty (a b : Option Addr) (ca cb : Nat) (w : World) (hn : a.isNone = b.isNone) :
    Calls Ybaf.prog 8 #[.slice a 0 ca, .slice b 0 cb] w fun e w' => e = .returned (.bool true) ∧ w' = w := by
  have q22 : ∀ (w : World) (a : Option Addr) (n c n' c' : Nat), (binOp .eql 22 (.slice a n c) (.slice none n' c')).run Ybaf.prog w = .ok (.bool a.isNone) w := fun w a n c n' c' => Lib.run_eql_slice_nil w _ _ a n c n' c' Ybaf.underlying22
  go_enter Ybaf.func8, Ybaf.ntmps8
  go_wp2
  refine wp_loop_rounds 1 ?_
  rw [rounds_succ]
  go_wp2
  go_ret
  exact ⟨rfl, rfl⟩

set_option maxHeartbeats 400000 in
/-- Two slices of one length that hold the same strings. -/
theorem eqstrs_some (ba oa bb ob n ca cb : Nat) (ss : List ByteArray) (w : World) (hm : n ≤ 1048576)
    (ha : ∀ j, j < n → w.cell? ⟨ba, oa + j, none⟩ = some (.string (ss.getD j ByteArray.empty))) (hb : ∀ j, j < n → w.cell? ⟨bb, ob + j, none⟩ = some (.string (ss.getD j ByteArray.empty))) :
    Calls Ybaf.prog 8 #[.slice (some ⟨ba, oa, none⟩) n ca, .slice (some ⟨bb, ob, none⟩) n cb] w fun e w' => e = .returned (.bool true) ∧ ∃ q, w' = w.drewN q := by
  have q22 : ∀ (w : World) (a : Option Addr) (n c n' c' : Nat), (binOp .eql 22 (.slice a n c) (.slice none n' c')).run Ybaf.prog w = .ok (.bool a.isNone) w := fun w a n c n' c' => Lib.run_eql_slice_nil w _ _ a n c n' c' Ybaf.underlying22
  go_enter Ybaf.func8, Ybaf.ntmps8
  go_wp2
  go_loopw [5] (fun i wr => ∃ k q : Nat, k ≤ n ∧ i = .int .i64 k ∧ wr = w.drewN q) (fun i _ => n - (intOf i).toNat)
  case atStart => exact ⟨0, 0, Nat.zero_le _, rfl, rfl⟩
  case round =>
    obtain ⟨k, q, hk, rfl, rfl⟩ := hrel
    by_cases hlt : k < n
    · have h1 : (w.drewN q).cell? ⟨ba, oa + k, none⟩ = some (.string (ss.getD k ByteArray.empty)) := by simpa using ha k hlt
      have h2 : (w.drewN q).cell? ⟨bb, ob + k, none⟩ = some (.string (ss.getD k ByteArray.empty)) := by simpa using hb k hlt
      go_wp2
      go_quiet (fail)
      go_wp2
      go_roundw
      case rel => exact ⟨k + 1, _, by omega, by go_num, rfl⟩
      case measure => simp [intOf]; omega
    · go_wp2
      go_ret
      exact ⟨rfl, _, rfl⟩

theorem add_plain' (b off i : Nat) : (⟨b, off, none⟩ : Addr).add i = ⟨b, off + i, none⟩ := by
  unfold Addr.add
  split
  · subst_vars; rfl
  · rfl

/-- The one contract that the law meets: a row that the call made, and a slice that is not nil. -/
theorem eqstrs_any (g n cb : Nat) (a : Addr) (ss : List ByteArray) (w : World) (hm : n ≤ 1048576)
    (ha : ∀ j, j < n → w.cell? ⟨g, j, none⟩ = some (.string (ss.getD j ByteArray.empty))) (hb : ∀ j, j < n → w.cell? (a.add j) = some (.string (ss.getD j ByteArray.empty))) :
    Calls Ybaf.prog 8 #[.slice (some ⟨g, 0, none⟩) n n, .slice (some a) n cb] w fun e w' => e = .returned (.bool true) ∧ ∃ q, w' = w.drewN q := by
  by_cases h0 : n = 0
  · subst h0
    refine (eqstrs_empty (some ⟨g, 0, none⟩) (some a) 0 cb w rfl).mono ?_
    rintro e w' ⟨he, hw⟩
    exact ⟨he, 0, by simpa [World.drewN] using hw⟩
  obtain ⟨b, off, spot⟩ := a
  have hspot : spot = none := by simpa [Addr.add] using World.cell?_spot (hb 0 (by omega))
  subst hspot
  exact eqstrs_some g 0 b off n n cb ss w hm (fun j hj => by simpa using ha j hj) (fun j hj => by rw [← add_plain']; exact hb j hj)

end Go.Proofs.YbulkeagiFmt
